/- Walks (printed by a program of my own). -/
import Derived.Test.YtplgbfkpeampgaaGreatDoorQ8
set_option linter.unusedVariables false
set_option linter.unusedSimpArgs false
set_option maxRecDepth 100000
namespace Go.Proofs.YtplgbfkpeampgaaGreatDoor
open Go
theorem c_take (sA:Seg) (qA:Option Addr) (nA cA jA:Nat) (xsA:List Nat) (hA:Rd qA nA 1 (nats .u8 xsA) sA jA) (bh pp:Nat) (qC:Option Addr) (nC capC:Nat) (n:Nat) (hb:Bytes xsA) (hn:n≤32) (hp:pp<4294967296) (hf:(pp+n+7)/8≤nA) (hz:nA≤1152921504606846976):Con Tryz.prog 29 [Vp bh 0,Vh n] [⟨bh,0,[.slice qA nA cA,Vh pp,.bool true,.slice qC nC capC],(some (67,4))⟩] [sA] (fun v' l'=>v'=Vh (bitsN xsA pp n)∧l'=[⟨bh,0,[.slice qA nA cA,Vh (pp+n),.bool true,.slice qC nC capC],(some (67,4))⟩]):=by
 refine Zi Tryz.func29 rfl fun w0=>?_
 refine G.seq ?_
 have hlA:=hA.lenN
 refine YG ?_
 refine Z4 ?_
 refine Zg 512 [y_0,y_1,y_2,r_3,y_4,y_5,y_6,r_7,y_8,e_9,y_10,y_11,y_12,y_13,y_14] ?_
 refine Ypa ?_
 refine Ypy (Zf fo_67_0) ?_
 refine Ypr (Zl 0 0 ag_22) ?_
 refine Ypy (Zf fo_67_1) ?_
 refine Ypr (Zl 0 1 ag_3) ?_
 refine Zpcc [] [1] (c_bitsAt sA qA nA cA jA xsA hA pp n Oa Om Om Om) rfl ?_
 refine Zpa 2 ?_
 refine Ypy (y_congr (y_ex rfl rfl rfl) (congrArg Value.bool (allN_true n hf))) ?_
 refine GP.nil (GQ.thenN (Y5 ?_))
 refine Yy (Zf fo_67_2) ?_
 refine Yr (Zl 0 2 ag_4) ?_
 refine Yy (Zf fo_67_2) ?_
 refine Ys (Zst 0 2 sz_4) ?_
 refine Y2 ?_
 refine Yy (Zf fo_67_1) ?_
 refine Yr (Zl 0 1 ag_3) ?_
 refine Yy (ZaddNh pp n) ?_
 refine Yy (Zf fo_67_1) ?_
 refine Ys (Zst 0 1 sz_3) ?_
 refine Y2 ?_
 refine Zn (G.ret ?_)
 repeat first|refine ZR ?_|refine ZB ?_
 exact ret1 [0] rfl rfl rfl (⟨rfl,rfl⟩)
theorem c_value (sA:Seg) (qA:Option Addr) (nA cA jA:Nat) (xsA:List Nat) (hA:Rd qA nA 1 (nats .u8 xsA) sA jA) (bh pp:Nat) (qC:Option Addr) (nC capC:Nat) (m:Nat) (bs:List Nat) (y:Nat) (hb:Bytes xsA) (hp:pp<4294967264) (hz:nA≤1152921504606846976) (hm:0<m) (hm2:m≤65536) (hy:y≤m) (hL:Low xsA nA pp (encV m y++bs)):Con Tryz.prog 30 [Vp bh 0,Vh m] [⟨bh,0,[.slice qA nA cA,Vh pp,.bool true,.slice qC nC capC],(some (67,4))⟩] [sA] (fun v' l'=>v'=Vh y∧l'=[⟨bh,0,[.slice qA nA cA,Vh (pp+(encV m y).length),.bool true,.slice qC nC capC],(some (67,4))⟩]):=by
 refine Zi Tryz.func30 rfl fun w0=>?_
 refine G.seq ?_
 have hlA:=hA.lenN
 refine YG ?_
 refine Z4 ?_
 have hbp:=blen_pos hm
 have hbl:blen m≤17:=blen_le Om
 have hb2:=blen_lt m
 have hb3:=pow_le hbl
 have hb4:=blen_ge hm
 have hb5:=pow_le (show(blen m-1)≤16 by omega)
 have hb6:=bitsN_lt xsA pp (blen m-1)
 obtain⟨hR0,hR⟩:=encV_read hL hb hy hm
 refine YG ?_
 refine Zcc [] [] (c_highBit m Om Om) rfl ?_
 refine Yy (Zq (blen m) (ZaddNh (blen m-1) 1)) ?_
 refine Y2 ?_
 refine Yy (Zq (2^blen m) (ZshlNh 1 (blen m)) (Nat.one_mul _)) ?_
 refine Yy (ZsubNh (2^blen m) 1) ?_
 refine Yy (ZsubNh ((2^blen m)-1) m) ?_
 refine Y2 ?_
 refine Yy (ZsubNh (blen m) 1) ?_
 refine Zcc [0] [0] (c_take sA qA nA cA jA xsA hA bh pp qC nC capC ((blen m)-1) Oa Om Om Om Om) rfl ?_
 refine Ya ?_
 refine Y3 ?_
 refine Yy (Zlt (bitsN xsA pp ((blen m)-1)) (((2^blen m)-1)-m)) ?_
 refine Zn ?_
 refine Zc (fun hs=>?_) (fun hs=>?_)
 refine Y5 ?_
 refine Zn (G.ret ?_)
 repeat first|refine ZR ?_|refine ZB ?_
 exact ret1 [0] rfl rfl rfl (⟨int_eq (show((bitsN xsA pp ((blen m)-1):Nat):Int)=((y:Nat):Int) from by omega),congrArg (fun q:Nat=>([⟨bh,0,[.slice qA nA cA,Vh q,.bool true,.slice qC nC capC],(some (67,4))⟩]:List Seg)) (show pp+((blen m)-1)=pp+(encV m y).length from by omega)⟩)
 refine Z7 (G.seq (G.seq ?_))
 have hR2:=hR.resolve_left (fun h=>by have h1:=h.1;have h2:=h.2.1;omega)
 obtain⟨hR3,hR4,hR5,hR6,hR7⟩:=hR2
 have hR8:=bitsN_lt xsA (pp+(blen m-1)) 1
 refine YG ?_
 refine Zcc [0] [0] (c_take sA qA nA cA jA xsA hA bh (pp+((blen m)-1)) qC nC capC 1 Oa Om Om Om Om) rfl ?_
 refine Yy (Zeq (bitsN xsA (pp+((blen m)-1)) 1) 1) ?_
 refine Zn ?_
 refine Zc (fun h1b=>?_) (fun h1b=>?_)
 refine YG ?_
 refine Yy (ZsubNh (blen m) 1) ?_
 refine Yy (Zq (2^(blen m-1)) (ZshlNh 1 ((blen m)-1)) (Nat.one_mul _)) ?_
 refine Yy (ZaddNh (bitsN xsA pp ((blen m)-1)) (2^(blen m-1))) ?_
 refine Y3 ?_
 refine Yy (ZsubNh (blen m) 1) ?_
 refine Yy (Zq (2^(blen m-1)) (ZshlNh 1 ((blen m)-1)) (Nat.one_mul _)) ?_
 refine Yy (Zge ((bitsN xsA pp ((blen m)-1))+(2^(blen m-1))) (2^(blen m-1))) ?_
 refine Zn ?_
 refine Zc (fun h2b=>?_) (fun h2b=>?_)
 refine YG ?_
 refine Yy (ZsubNh ((bitsN xsA pp ((blen m)-1))+(2^(blen m-1))) (((2^blen m)-1)-m)) ?_
 refine Y2 ?_
 refine Zn (G.ret ?_)
 repeat first|refine ZR ?_|refine ZB ?_
 exact ret1 [0] rfl rfl rfl (⟨int_eq (show((((bitsN xsA pp ((blen m)-1))+(2^(blen m-1)))-(((2^blen m)-1)-m):Nat):Int)=((y:Nat):Int) from by omega),congrArg (fun q:Nat=>([⟨bh,0,[.slice qA nA cA,Vh q,.bool true,.slice qC nC capC],(some (67,4))⟩]:List Seg)) (show(pp+((blen m)-1))+1=pp+(encV m y).length from by omega)⟩)
 refine Y8 ?_
 refine Zn (G.ret ?_)
 repeat first|refine ZR ?_|refine ZB ?_
 exact ret1 [0] rfl rfl rfl (⟨int_eq (show(((bitsN xsA pp ((blen m)-1))+(2^(blen m-1)):Nat):Int)=((y:Nat):Int) from by omega),congrArg (fun q:Nat=>([⟨bh,0,[.slice qA nA cA,Vh q,.bool true,.slice qC nC capC],(some (67,4))⟩]:List Seg)) (show(pp+((blen m)-1))+1=pp+(encV m y).length from by omega)⟩)
 refine Z7 (Y6 ?_)
 refine Yy (ZsubNh (blen m) 1) ?_
 refine Yy (Zq (2^(blen m-1)) (ZshlNh 1 ((blen m)-1)) (Nat.one_mul _)) ?_
 refine Yy (Zge (bitsN xsA pp ((blen m)-1)) (2^(blen m-1))) ?_
 refine Zn ?_
 refine Zc (fun h2b=>?_) (fun h2b=>?_)
 refine YG ?_
 refine Yy (ZsubNh (bitsN xsA pp ((blen m)-1)) (((2^blen m)-1)-m)) ?_
 refine Y2 ?_
 refine Zn (G.ret ?_)
 repeat first|refine ZR ?_|refine ZB ?_
 exact ret1 [0] rfl rfl rfl (⟨int_eq (show(((bitsN xsA pp ((blen m)-1))-(((2^blen m)-1)-m):Nat):Int)=((y:Nat):Int) from by omega),congrArg (fun q:Nat=>([⟨bh,0,[.slice qA nA cA,Vh q,.bool true,.slice qC nC capC],(some (67,4))⟩]:List Seg)) (show(pp+((blen m)-1))+1=pp+(encV m y).length from by omega)⟩)
 refine Y8 ?_
 refine Zn (G.ret ?_)
 repeat first|refine ZR ?_|refine ZB ?_
 exact ret1 [0] rfl rfl rfl (⟨int_eq (show((bitsN xsA pp ((blen m)-1):Nat):Int)=((y:Nat):Int) from by omega),congrArg (fun q:Nat=>([⟨bh,0,[.slice qA nA cA,Vh q,.bool true,.slice qC nC capC],(some (67,4))⟩]:List Seg)) (show(pp+((blen m)-1))+1=pp+(encV m y).length from by omega)⟩)
theorem c_zeros (sA:Seg) (qA:Option Addr) (nA cA jA:Nat) (xsA:List Nat) (hA:Rd qA nA 1 (nats .u8 xsA) sA jA) (bh pp:Nat) (qC:Option Addr) (bC oC:Nat) (csC:List Value) (capC:Nat) (xsC:List Nat) (nC:Nat) (hgC:GS qC bC oC csC 1 capC) (hcC:nC≤capC) (hpC:csC.take nC=nats .i64 xsC) (hlC:xsC.length=nC) (bs:List Nat) (z:Nat) (hb:Bytes xsA) (hp:pp+(zerosB z).length≤8*nA) (hz:nA≤1048576) (hm:nC+z≤256) (hL:Low xsA nA pp (zerosB z++bs)):Con Tryz.prog 31 [Vp bh 0] [⟨bh,0,[.slice qA nA cA,Vh pp,.bool true,.slice qC nC capC],(some (67,4))⟩,⟨bC,oC,csC,none⟩] [sA] (fun v' l'=>∃q b o cs cap,v'=.tuple #[]∧GS q b o cs 1 cap∧nC+z≤cap∧cs.take (nC+z)=nats .i64 (xsC++List.replicate z 0)∧(xsC++List.replicate z 0).length=nC+z∧l'=[⟨bh,0,[.slice qA nA cA,Vh (pp+(zerosB z).length),.bool true,.slice q (nC+z) cap],(some (67,4))⟩,⟨b,o,cs,none⟩]):=by
 refine Zi Tryz.func31 rfl fun w0=>?_
 refine G.block ?_
 refine Zo (fun mz ρ l=>∃at_:Nat,∃qp:Option Addr,∃bp op:Nat,∃csp:List Value,∃capp:Nat,∃P:List Nat,∃m y:Nat,mz=2*y∧(GS qp bp op csp 1 capp)∧(m≤capp)∧(csp.take m=nats .i64 P)∧(P.length=m)∧(at_+(zerosB y).length=pp+(zerosB z).length∧m+y=nC+z)∧(P++List.replicate y 0=xsC++List.replicate z 0)∧(Low xsA nA at_ (zerosB y++bs))∧ρ=[(0,Vp bh 0)]∧l=[⟨bh,0,[.slice qA nA cA,Vh at_,.bool true,.slice qp m capp],(some (67,4))⟩,⟨bp,op,csp,none⟩]) ⟨pp,qC,bC,oC,csC,capC,xsC,nC,z,rfl,hgC,hcC,hpC,Ow,⟨rfl,rfl⟩,rfl,hL,rfl,rfl⟩ ?_
 rintro _ _ _ ⟨at_,qp,bp,op,csp,capp,P,m,y,rfl,hgp,hcp,hpp,hlp,hy,hP,hLo,rfl,rfl⟩
 refine G.seq (G.seq ?_)
 have hlA:=hA.lenN
 refine YG ?_
 refine Yy (Zf fo_67_2) ?_
 refine Yr (Zl 0 2 ag_4) ?_
 refine Zn (G.condT rfl (Z7 (G.block (G.seq ?_))))
 obtain⟨t,ht,ht3,hty,hR1,hR2⟩:=zer_read hLo hb
 refine YG ?_
 refine Zcc [0] [1] (c_take sA qA nA cA jA xsA hA bh at_ qp m capp 2 Oa Om Om Om Om) rfl ?_
 refine Yy (Zq t (y_as rfl rfl) ht) ?_
 refine Y3 ?_
 refine Zn (G.block ?_)
 refine Zo (fun mz ρ l=>∃i:Nat,∃qq:Option Addr,∃bq oq:Nat,∃csq:List Value,∃capq:Nat,∃P2:List Nat,∃m2:Nat,mz=t-i∧(GS qq bq oq csq 1 capq)∧(m2≤capq)∧(csq.take m2=nats .i64 P2)∧(P2.length=m2)∧(i≤t∧m2=m+i)∧(P2=P++List.replicate i 0)∧ρ=[(0,Vp bh 0),(2,Vh t),(3,Vh i)]∧l=[⟨bh,0,[.slice qA nA cA,Vh (at_+2),.bool true,.slice qq m2 capq],(some (67,4))⟩,⟨bq,oq,csq,none⟩]) ⟨0,qp,bp,op,csp,capp,P,m,rfl,hgp,hcp,hpp,Ow,⟨Om,Om⟩,Oi,rfl,rfl⟩ ?_
 rintro _ _ _ ⟨i,qq,bq,oq,csq,capq,P2,m2,rfl,hgq,hcq,hpq,hlq,hi,hP2,rfl,rfl⟩
 refine Y6 ?_
 refine Yy (Zlt i t) ?_
 refine Zn ?_
 refine Zc (fun h1=>?_) (fun h1=>?_)
 refine Z7 (G.seq (G.block (YG ?_)))
 refine Yy (Zf fo_67_3) ?_
 refine Yr (Zl 0 3 ag_25) ?_
 refine Ze (e_bs (ps:=[(0,.const (Vh 0))]) (pv:=[(0,Vh 0)]) (vs:=[Vh 0]) 8 rfl ⟨rfl,rfl⟩ el_25 Od Ov rfl rfl) fun b2=>?_
 refine GL.eff (e_appN (k:=.i64) (n:=m2) (m:=1) (xs:=P2) (ys:=[0]) 2 rfl rfl rfl rfl el_25 rfl rfl hgq hpq (Src.ofL 0 0 rfl rfl rfl) Oq rfl rfl) rfl ?_
 rintro _ _ ⟨q3,b4,o5,cs6,cap7,hg8,hc9,ht10,rfl,rfl⟩
 refine Ya ?_
 refine Yy (Zf fo_67_3) ?_
 refine Ys (Zst 1 3 sz_25) ?_
 refine GL.nil (GQ.blockN (GQ.thenN (YG ?_)))
 refine Yy (ZaddNh i 1) ?_
 refine GL.nil ?_
 refine GQ.pick [1,1] rfl ?_
 exact Zb ⟨(i+1),q3,b4,o5,cs6,cap7,(P2++[0]),(m2+1),rfl,hg8,hc9,ht10,Ow,⟨Om,Om⟩,(by rw[List.replicate_succ', ←List.append_assoc, ←hP2]),rfl,rfl⟩
 refine G.exit (GQ.thenE (GQ.thenE (GQ.blockE (GQ.thenN (G.seq ?_)))))
 have hrr:(t=3∧at_+2+(zerosB (y-3)).length=pp+(zerosB z).length)∨(t<3∧t=y∧at_+2=pp+(zerosB z).length):=hR2.imp (fun h=>⟨h.1,by have:=h.2.2;omega⟩) (fun h=>⟨h.1,h.2.1,by have:=h.2.2.2;omega⟩)
 refine YG ?_
 refine Zy (Zlt t 3) ?_
 refine Za 1 ?_
 refine GL.split (t:=26) (p:=((t:Nat):Int)<((3:Nat):Int)) rfl (fun ht9=>?_) (fun ht9=>?_)
 refine Ya ?_
 refine Zn (G.condT rfl (G.ret ?_))
 have em:m2=nC+z:=Om
 have eP:P2=xsC++List.replicate z 0:=by rw[hP2,show i=y by omega];exact hP
 repeat first|refine ZR ?_|refine ZB ?_
 exact ret0r [0,0] rfl rfl (⟨_,_,_,_,_,rfl,hgq,em▸hcq,by rw[←em, ←eP];exact hpq,by rw[List.length_append,List.length_replicate];omega,by rw[show at_+2=pp+(zerosB z).length by omega,em]⟩)
 refine Ya ?_
 refine Yy (Zf fo_67_3) ?_
 refine Yr (Zl 0 3 ag_25) ?_
 refine Yy (Zlen un_25) ?_
 refine Yy (Zgt m2 256) ?_
 refine Zn ?_
 refine Zc (fun h11=>?_) (fun h11=>?_)
 exfalso;omega
 refine G.skip (GQ.blockN ?_)
 exact Zb ⟨(at_+2),qq,bq,oq,csq,capq,P2,m2,y-3,rfl,hgq,hcq,hpq,Ow,⟨Om,Om⟩,(by rw[hP2,show i=3 by omega,List.append_assoc,List.replicate_append_replicate,show 3+(y-3)=y by omega];exact hP),(hR2.resolve_right (fun h=>by have:=h.1;omega)).2.1,rfl,rfl⟩
theorem c_FseRead (sA:Seg) (qA:Option Addr) (nA cA jA:Nat) (xsA:List Nat) (hA:Rd qA nA 1 (nats .u8 xsA) sA jA) (paA:PA qA cA) (hcA:nA≤cA) (cs E:List Nat) (hb:Bytes xsA) (hz:nA≤1048576) (hD:Descr 64 cs E) (hcl:cs.length≤256) (hL:Low xsA nA 0 (lowB 1 4++E)):Con Tryz.prog 17 [.slice qA nA cA] [] [sA] (AppF (fun P ys=>(∃c',cs=P++c')∧P.sum=64∧ys=xsA.drop ((4+E.length+7)/8))):=by
 refine Zi Tryz.func17 rfl fun w0=>?_
 refine G.seq ?_
 have hlA:=hA.lenN
 refine YG ?_
 refine Y2 ?_
 refine Yy (y_bd (ps:=[(0,.tmp 9),(2,.const (.bool true))]) (pv:=[(0,.slice qA nA cA),(2,.bool true)]) (vs:=[.slice qA nA cA,Vh 0,.bool true,.slice none 0 0]) rfl ⟨rfl,rfl⟩ st_67 zc_67 Ov) ?_
 refine Ze (e_box rfl rfl rfl rfl rfl) fun b1=>?_
 refine Ya ?_
 refine Z4 ?_
 obtain⟨h41,h42,h43⟩:=hL.take hb
 refine YG ?_
 refine Zcc [0] [0] (c_take sA qA nA cA jA xsA hA b1 0 none 0 0 4 Oa Om Om Om Om) rfl ?_
 refine Yy (Zq 6 (ZaddNh (bitsN xsA 0 4) 5) (by rw[h41])) ?_
 refine Y2 ?_
 refine Yy (Zq 64 (ZshlNh 1 6) Od) ?_
 refine Y3 ?_
 refine Yy (Zgt 6 15) ?_
 refine Zn ?_
 refine G.condDF rfl Od ?_
 refine Z7 (G.seq (G.block ?_))
 refine G.addE ?_
 refine Zo (fun mz ρ l=>∃left at_:Nat,∃qp:Option Addr,∃bp op:Nat,∃csp:List Value,∃capp:Nat,∃P:List Nat,∃m:Nat,∃cr er:List Nat,mz=2*cr.length∧(GS qp bp op csp 1 capp)∧(m≤capp)∧(csp.take m=nats .i64 P)∧(P.length=m)∧(Descr left cr er)∧(Low xsA nA at_ er)∧(cs=P++cr)∧(P.sum+left=64)∧(at_+er.length=4+E.length)∧ρ=[(0,.slice qA nA cA),(3,Vh 6),(6,Vp b1 0),(7,Vh left)]∧l=[⟨bp,op,csp,none⟩,⟨b1,0,[.slice qA nA cA,Vh at_,.bool true,.slice qp m capp],(some (67,4))⟩]) ⟨64,(0+4),none,0,0,[],0,[],0,cs,E,rfl,⟨rfl,.inr ⟨rfl,rfl⟩⟩,(Nat.le_refl _),rfl,Ow,hD,h42,rfl,rfl,Om,rfl,rfl⟩ ?_ (hs:=rfl)
 rintro _ _ _ ⟨left,at_,qp,bp,op,csp,capp,P,m,cr,er,rfl,hgp,hcp,hpp,hlp,hd,hLo,hPc,hs,ha,rfl,rfl⟩
 refine Y6 ?_
 refine Zy (Zgt left 0) ?_
 refine Za 1 ?_
 refine GL.split (t:=21) (p:=((0:Nat):Int)<((left:Nat):Int)) rfl (fun hlf=>?_) (fun hlf=>?_)
 refine Ya ?_
 refine Yy (Zf fo_67_2) ?_
 refine Yr (Zl 1 2 ag_4) ?_
 refine Zn (G.condT rfl (Z7 (G.block (G.seq (G.seq ?_)))))
 obtain⟨n,t,b,hE,hcr,hnl,hcase⟩:=hd.inv Om
 rw[hE] at hLo ha
 rw[List.length_append] at ha
 have hLb:=hLo.skip (encV_bits _ _)
 have hat:=hLo.le
 have hcrl:cr.length=t.length+1:=by rw[hcr];rfl
 have hPl:cs.length=P.length+cr.length:=by rw[hPc,List.length_append]
 refine YG ?_
 refine Yy (Zf fo_67_3) ?_
 refine Yr (Zl 1 3 ag_25) ?_
 refine Yy (Zlen un_25) ?_
 refine Yy (Zgt m 255) ?_
 refine Zn ?_
 refine Zc (fun h2=>?_) (fun h2=>?_)
 exfalso;omega
 refine Y8 ?_
 refine Yy (ZaddNh left 1) ?_
 refine Zcc [1] [1] (c_value sA qA nA cA jA xsA hA b1 at_ qp m capp (left+1) b (n+1) Oa Om Om Om Om Om hLo) rfl ?_
 refine Yy (Zq n (ZsubNh (n+1) 1)) ?_
 refine Y2 ?_
 refine Yy (Zf fo_67_3) ?_
 refine Yr (Zl 0 3 ag_25) ?_
 refine Ze (e_bs (ps:=[(0,.tmp 43)]) (pv:=[(0,Vh n)]) (vs:=[Vh n]) 8 rfl ⟨rfl,rfl⟩ el_25 Od Ov rfl rfl) fun b3=>?_
 refine GL.eff (e_appN (k:=.i64) (n:=m) (m:=1) (xs:=P) (ys:=[n]) 2 rfl rfl rfl rfl el_25 rfl rfl hgp hpp (Src.ofL 0 0 rfl rfl rfl) Oq rfl rfl) rfl ?_
 rintro _ _ ⟨q4,b5,o6,cs7,cap8,hg9,hc10,ht11,rfl,rfl⟩
 refine Ya ?_
 refine Yy (Zf fo_67_3) ?_
 refine Ys (Zst 1 3 sz_25) ?_
 refine Y3 ?_
 refine Yy (Zlt n 0) ?_
 refine Zn ?_
 refine G.condDF rfl Om ?_
 refine Y8 ?_
 refine Yy (y_congr (y_max (X:=((n:Nat):Int)) (Y:=((0:Nat):Int)) rfl rfl rfl) (int_eq (show max ((n:Nat):Int) ((0:Nat):Int)=((n:Nat):Int) from by omega))) ?_
 refine Yy (ZsubNh left n) ?_
 refine Y2 ?_
 refine Yy (Zeq n 0) ?_
 refine Zn ?_
 refine Zc (fun hn0i=>?_) (fun hn0i=>?_)
 have hn0:n=0:=Om
 obtain⟨z,c,t2,b2,hb2,ht2,hd2⟩:=(hcase.resolve_left (fun h=>by have:=h.1;omega)).2
 rw[hb2] at hLb ha
 rw[List.length_append] at ha
 have hLz:=hLb.skip (zerosB_bits z)
 have hzl:=hLz.le
 have htl:t.length=z+(t2.length+1):=by rw[ht2];simp
 refine YG ?_
 refine Zcp [1,1] [1] (c_zeros sA qA nA cA jA xsA hA b1 (at_+(encV (left+1) (n+1)).length) q4 b5 o6 cs7 cap8 (P++[n]) (m+1) hg9 hc10 ht11 (by first|rfl|assumption|(simp;omega)|simp_all) b2 z Oa Om Om Om hLb) rfl ?_
 rintro _ _ ⟨q12,b13,o14,cs15,cap16,rfl,hg17,hc18,hp19,hl20,rfl⟩
 refine GL.nil (GQ.blockN ?_)
 refine GQ.pick [1,0] rfl ?_
 exact Zb ⟨(left-n),((at_+(encV (left+1) (n+1)).length)+(zerosB z).length),q12,b13,o14,cs15,cap16,((P++[n])++List.replicate z 0),((m+1)+z),(c::t2),b2,rfl,hg17,hc18,hp19,Ow,(by rw[hn0,Nat.sub_zero];exact hd2),hLz,(by rw[hPc,hcr,ht2,hn0];simp),Oz,Om,rfl,rfl⟩ (by first|omega|(simp only[List.length_cons];omega))
 have hd1:=(hcase.resolve_right (fun h=>by have:=h.1;omega)).2
 refine G.skip (GQ.blockN ?_)
 refine GQ.pick [2,1] rfl ?_
 exact Zb ⟨(left-n),(at_+(encV (left+1) (n+1)).length),q4,b5,o6,cs7,cap8,(P++[n]),(m+1),t,b,rfl,hg9,hc10,ht11,Ow,hd1,hLb,(by rw[hPc,hcr];simp),Oz,Om,rfl,rfl⟩ (by first|omega|(simp only[List.length_cons];omega))
 refine Ya ?_
 refine Zn (G.condF rfl (G.exit (GQ.thenE (GQ.thenE (GQ.blockE (GQ.thenN (G.seq (G.seq ?_))))))))
 have hl0:left=0:=Om
 have her:=hd.end0 hl0
 rw[her] at ha hLo
 have hat:at_=4+E.length:=by have h9:([]:List Nat).length=0:=rfl;omega
 have hfin:=hLo.1
 have hPl:cs.length=P.length+cr.length:=by rw[hPc,List.length_append]
 refine YG ?_
 refine Yy (Zf fo_67_2) ?_
 refine Yr (Zl 1 2 ag_4) ?_
 refine Yy (y_notB rfl rfl) ?_
 refine Zy (Zne left 0) ?_
 refine Za 2 ?_
 refine GL.knowF (t:=69) (p:=((left:Nat):Int)≠((0:Nat):Int)) rfl Om ?_
 refine Ya ?_
 refine Yy (Zf fo_67_3) ?_
 refine Yr (Zl 1 3 ag_25) ?_
 refine Yy (Zlen un_25) ?_
 refine Yy (Zgt m 256) ?_
 refine Zn ?_
 refine Zc (fun h21=>?_) (fun h21=>?_)
 exfalso;omega
 refine Z7 (G.seq ?_)
 refine Zh 17448 (YS 0 (YS 1 (YS 2 (YS 4 (YS 6 (YS 7 (YS 8 (YS 9 (YE 3 (YE 5 (YE 10 (YS 11 (YS 12 (YS 13 (YF 14 (YS 15 (YS 16 (YS 17 (YS 18 .nil)))))))) .stop) (YE 10 (YS 11 (YS 12 (YS 13 (YE 5 (YF 14 (YS 15 (YS 16 (YS 17 (YS 18 .nil))))) .stop)))) .stop)) (YE 5 (YE 3 (YE 10 (YS 11 (YS 12 (YS 13 (YF 14 (YS 15 (YS 16 (YS 17 (YS 18 .nil)))))))) .stop) (YE 10 (YS 11 (YS 12 (YS 13 (YE 3 (YF 14 (YS 15 (YS 16 (YS 17 (YS 18 .nil))))) (YE 14 (YF 3 (YS 15 (YS 16 (YS 17 (YS 18 .nil))))) .stop))))) .stop)) (YE 10 (YS 11 (YS 12 (YS 13 (YE 3 (YE 5 (YF 14 (YS 15 (YS 16 (YS 17 (YS 18 .nil))))) .stop) (YE 5 (YE 3 (YF 14 (YS 15 (YS 16 (YS 17 (YS 18 .nil))))) (YE 14 (YF 3 (YS 15 (YS 16 (YS 17 (YS 18 .nil))))) .stop)) .stop))))) .stop))))))))))) ?_
 refine Yta ?_
 refine Yty (Zf fo_67_3) ?_
 refine Yty (Zf fo_67_1) ?_
 refine Ytx (Zl 1 3 ag_25) ?_ ?_
 refine GT.eff (e_bs (ps:=[]) (pv:=[]) (vs:=[]) 1 rfl ⟨rfl,rfl⟩ el_22 Od Ov rfl rfl) rfl rfl ?_ ?_
 rintro _ _ ⟨b22,rfl,rfl⟩
 refine Ytu (Zl 2 1 ag_3) ?_
 refine Yty (ZaddNh at_ 7) ?_
 refine Yty (ZquoNh (at_+7) 8) ?_
 have hD23:Rd (cutA qA ((at_+7)/8) 1 cA) (nA-((at_+7)/8)) 1 (nats .u8 ((xsA.drop ((at_+7)/8)).take (nA-((at_+7)/8)))) sA (jA+((at_+7)/8)*1):=Rd.cut hA Om (by simp[nats,ints,List.map_take,List.map_drop]) (fun h0=>cutA_some (hA.ad Om) Om Om)
 refine Yty (y_slGL (lo:=(at_+7)/8) rfl rfl rfl se_22 Om paA.nilcap) ?_
 refine GT.eff (e_appN (k:=.u8) (n:=0) (m:=nA-((at_+7)/8)) (xs:=[]) (ys:=(xsA.drop ((at_+7)/8)).take (nA-((at_+7)/8))) 0 rfl rfl rfl rfl el_22 rfl rfl ⟨Oi,.inl rfl⟩ rfl (Src.ofRd 3 rfl hD23) Oq rfl rfl) rfl rfl ?_ GT.stop
 rintro _ _ ⟨q24,b25,o26,cs27,cap28,hg29,hc30,ht31,rfl,rfl⟩
 refine Yta ?_
 refine GT.nil (GQ.thenN (G.ret ?_))
 repeat first|refine ZR ?_|refine ZB ?_
 exact ret4 [1,0] rfl rfl rfl rfl rfl rfl (AppF.mk hgp hcp hpp hlp hg29 hc30 ht31 Oz ⟨⟨cr,hPc⟩,Om,by rw[List.nil_append,hat,List.take_of_length_le Oz]⟩)
 refine Ytu (Zl 1 1 ag_3) ?_
 refine Yty (ZaddNh at_ 7) ?_
 refine Yty (ZquoNh (at_+7) 8) ?_
 have hD32:Rd (cutA qA ((at_+7)/8) 1 cA) (nA-((at_+7)/8)) 1 (nats .u8 ((xsA.drop ((at_+7)/8)).take (nA-((at_+7)/8)))) sA (jA+((at_+7)/8)*1):=Rd.cut hA Om (by simp[nats,ints,List.map_take,List.map_drop]) (fun h0=>cutA_some (hA.ad Om) Om Om)
 refine Yty (y_slGL (lo:=(at_+7)/8) rfl rfl rfl se_22 Om paA.nilcap) ?_
 refine GT.eff (e_bs (ps:=[]) (pv:=[]) (vs:=[]) 1 rfl ⟨rfl,rfl⟩ el_22 Od Ov rfl rfl) rfl rfl ?_ GT.stop
 rintro _ _ ⟨b33,rfl,rfl⟩
 refine GT.eff (e_appN (k:=.u8) (n:=0) (m:=nA-((at_+7)/8)) (xs:=[]) (ys:=(xsA.drop ((at_+7)/8)).take (nA-((at_+7)/8))) 0 rfl rfl rfl rfl el_22 rfl rfl ⟨Oi,.inl rfl⟩ rfl (Src.ofRd 3 rfl hD32) Oq rfl rfl) rfl rfl ?_ GT.stop
 rintro _ _ ⟨q34,b35,o36,cs37,cap38,hg39,hc40,ht41,rfl,rfl⟩
 refine Yta ?_
 refine GT.nil (GQ.thenN (G.ret ?_))
 repeat first|refine ZR ?_|refine ZB ?_
 exact ret4 [1,0] rfl rfl rfl rfl rfl rfl (AppF.mk hgp hcp hpp hlp hg39 hc40 ht41 Oz ⟨⟨cr,hPc⟩,Om,by rw[List.nil_append,hat,List.take_of_length_le Oz]⟩)
 refine GT.eff (e_bs (ps:=[]) (pv:=[]) (vs:=[]) 1 rfl ⟨rfl,rfl⟩ el_22 Od Ov rfl rfl) rfl rfl ?_ ?_
 rintro _ _ ⟨b42,rfl,rfl⟩
 refine Ytx (Zl 2 3 ag_25) ?_ ?_
 refine Ytu (Zl 2 1 ag_3) ?_
 refine Yty (ZaddNh at_ 7) ?_
 refine Yty (ZquoNh (at_+7) 8) ?_
 have hD43:Rd (cutA qA ((at_+7)/8) 1 cA) (nA-((at_+7)/8)) 1 (nats .u8 ((xsA.drop ((at_+7)/8)).take (nA-((at_+7)/8)))) sA (jA+((at_+7)/8)*1):=Rd.cut hA Om (by simp[nats,ints,List.map_take,List.map_drop]) (fun h0=>cutA_some (hA.ad Om) Om Om)
 refine Yty (y_slGL (lo:=(at_+7)/8) rfl rfl rfl se_22 Om paA.nilcap) ?_
 refine GT.eff (e_appN (k:=.u8) (n:=0) (m:=nA-((at_+7)/8)) (xs:=[]) (ys:=(xsA.drop ((at_+7)/8)).take (nA-((at_+7)/8))) 0 rfl rfl rfl rfl el_22 rfl rfl ⟨Oi,.inl rfl⟩ rfl (Src.ofRd 3 rfl hD43) Oq rfl rfl) rfl rfl ?_ GT.stop
 rintro _ _ ⟨q44,b45,o46,cs47,cap48,hg49,hc50,ht51,rfl,rfl⟩
 refine Yta ?_
 refine GT.nil (GQ.thenN (G.ret ?_))
 repeat first|refine ZR ?_|refine ZB ?_
 exact ret4 [1,0] rfl rfl rfl rfl rfl rfl (AppF.mk hgp hcp hpp hlp hg49 hc50 ht51 Oz ⟨⟨cr,hPc⟩,Om,by rw[List.nil_append,hat,List.take_of_length_le Oz]⟩)
 refine Ytu (Zl 2 1 ag_3) ?_
 refine Yty (ZaddNh at_ 7) ?_
 refine Yty (ZquoNh (at_+7) 8) ?_
 have hD52:Rd (cutA qA ((at_+7)/8) 1 cA) (nA-((at_+7)/8)) 1 (nats .u8 ((xsA.drop ((at_+7)/8)).take (nA-((at_+7)/8)))) sA (jA+((at_+7)/8)*1):=Rd.cut hA Om (by simp[nats,ints,List.map_take,List.map_drop]) (fun h0=>cutA_some (hA.ad Om) Om Om)
 refine Yty (y_slGL (lo:=(at_+7)/8) rfl rfl rfl se_22 Om paA.nilcap) ?_
 refine Ytx (Zl 2 3 ag_25) ?_ ?_
 refine GT.eff (e_appN (k:=.u8) (n:=0) (m:=nA-((at_+7)/8)) (xs:=[]) (ys:=(xsA.drop ((at_+7)/8)).take (nA-((at_+7)/8))) 0 rfl rfl rfl rfl el_22 rfl rfl ⟨Oi,.inl rfl⟩ rfl (Src.ofRd 3 rfl hD52) Oq rfl rfl) rfl rfl ?_ GT.stop
 rintro _ _ ⟨q53,b54,o55,cs56,cap57,hg58,hc59,ht60,rfl,rfl⟩
 refine Yta ?_
 refine GT.nil (GQ.thenN (G.ret ?_))
 repeat first|refine ZR ?_|refine ZB ?_
 exact ret4 [1,0] rfl rfl rfl rfl rfl rfl (AppF.mk hgp hcp hpp hlp hg58 hc59 ht60 Oz ⟨⟨cr,hPc⟩,Om,by rw[List.nil_append,hat,List.take_of_length_le Oz]⟩)
 refine GT.eff (e_appN (k:=.u8) (n:=0) (m:=nA-((at_+7)/8)) (xs:=[]) (ys:=(xsA.drop ((at_+7)/8)).take (nA-((at_+7)/8))) 0 rfl rfl rfl rfl el_22 rfl rfl ⟨Oi,.inl rfl⟩ rfl (Src.ofRd 3 rfl hD52) Oq rfl rfl) rfl rfl ?_ GT.stop
 rintro _ _ ⟨q61,b62,o63,cs64,cap65,hg66,hc67,ht68,rfl,rfl⟩
 refine Ytu (Zl 2 3 ag_25) ?_
 refine GT.nil (GQ.thenN (G.ret ?_))
 repeat first|refine ZR ?_|refine ZB ?_
 exact ret4 [1,0] rfl rfl rfl rfl rfl rfl (AppF.mk hgp hcp hpp hlp hg66 hc67 ht68 Oz ⟨⟨cr,hPc⟩,Om,by rw[List.nil_append,hat,List.take_of_length_le Oz]⟩)
 refine Ytu (Zl 1 1 ag_3) ?_
 refine Yty (ZaddNh at_ 7) ?_
 refine Yty (ZquoNh (at_+7) 8) ?_
 have hD69:Rd (cutA qA ((at_+7)/8) 1 cA) (nA-((at_+7)/8)) 1 (nats .u8 ((xsA.drop ((at_+7)/8)).take (nA-((at_+7)/8)))) sA (jA+((at_+7)/8)*1):=Rd.cut hA Om (by simp[nats,ints,List.map_take,List.map_drop]) (fun h0=>cutA_some (hA.ad Om) Om Om)
 refine Yty (y_slGL (lo:=(at_+7)/8) rfl rfl rfl se_22 Om paA.nilcap) ?_
 refine Ytx (Zl 1 3 ag_25) ?_ ?_
 refine GT.eff (e_bs (ps:=[]) (pv:=[]) (vs:=[]) 1 rfl ⟨rfl,rfl⟩ el_22 Od Ov rfl rfl) rfl rfl ?_ GT.stop
 rintro _ _ ⟨b70,rfl,rfl⟩
 refine GT.eff (e_appN (k:=.u8) (n:=0) (m:=nA-((at_+7)/8)) (xs:=[]) (ys:=(xsA.drop ((at_+7)/8)).take (nA-((at_+7)/8))) 0 rfl rfl rfl rfl el_22 rfl rfl ⟨Oi,.inl rfl⟩ rfl (Src.ofRd 3 rfl hD69) Oq rfl rfl) rfl rfl ?_ GT.stop
 rintro _ _ ⟨q71,b72,o73,cs74,cap75,hg76,hc77,ht78,rfl,rfl⟩
 refine Yta ?_
 refine GT.nil (GQ.thenN (G.ret ?_))
 repeat first|refine ZR ?_|refine ZB ?_
 exact ret4 [1,0] rfl rfl rfl rfl rfl rfl (AppF.mk hgp hcp hpp hlp hg76 hc77 ht78 Oz ⟨⟨cr,hPc⟩,Om,by rw[List.nil_append,hat,List.take_of_length_le Oz]⟩)
 refine GT.eff (e_bs (ps:=[]) (pv:=[]) (vs:=[]) 1 rfl ⟨rfl,rfl⟩ el_22 Od Ov rfl rfl) rfl rfl ?_ GT.stop
 rintro _ _ ⟨b79,rfl,rfl⟩
 refine Ytx (Zl 2 3 ag_25) ?_ ?_
 refine GT.eff (e_appN (k:=.u8) (n:=0) (m:=nA-((at_+7)/8)) (xs:=[]) (ys:=(xsA.drop ((at_+7)/8)).take (nA-((at_+7)/8))) 0 rfl rfl rfl rfl el_22 rfl rfl ⟨Oi,.inl rfl⟩ rfl (Src.ofRd 3 rfl hD69) Oq rfl rfl) rfl rfl ?_ GT.stop
 rintro _ _ ⟨q80,b81,o82,cs83,cap84,hg85,hc86,ht87,rfl,rfl⟩
 refine Yta ?_
 refine GT.nil (GQ.thenN (G.ret ?_))
 repeat first|refine ZR ?_|refine ZB ?_
 exact ret4 [1,0] rfl rfl rfl rfl rfl rfl (AppF.mk hgp hcp hpp hlp hg85 hc86 ht87 Oz ⟨⟨cr,hPc⟩,Om,by rw[List.nil_append,hat,List.take_of_length_le Oz]⟩)
 refine GT.eff (e_appN (k:=.u8) (n:=0) (m:=nA-((at_+7)/8)) (xs:=[]) (ys:=(xsA.drop ((at_+7)/8)).take (nA-((at_+7)/8))) 0 rfl rfl rfl rfl el_22 rfl rfl ⟨Oi,.inl rfl⟩ rfl (Src.ofRd 3 rfl hD69) Oq rfl rfl) rfl rfl ?_ GT.stop
 rintro _ _ ⟨q88,b89,o90,cs91,cap92,hg93,hc94,ht95,rfl,rfl⟩
 refine Ytu (Zl 2 3 ag_25) ?_
 refine GT.nil (GQ.thenN (G.ret ?_))
 repeat first|refine ZR ?_|refine ZB ?_
 exact ret4 [1,0] rfl rfl rfl rfl rfl rfl (AppF.mk hgp hcp hpp hlp hg93 hc94 ht95 Oz ⟨⟨cr,hPc⟩,Om,by rw[List.nil_append,hat,List.take_of_length_le Oz]⟩)
theorem c_calm (sA:Seg) (qA:Option Addr) (nA cA jA:Nat) (xsA:List Nat) (hA:Rd qA nA 1 (nats .u8 xsA) sA jA) (paA:PA qA cA) (hcA:nA≤cA) (cs E:List Nat) (hb:Bytes xsA) (hz:nA≤1048576) (hD:Descr 64 cs E) (hcl:cs.length≤256) (ha63:AllLe cs 63) (hL:Low xsA nA 0 (lowB 1 4++E)):Con Tryz.prog 9 [.slice qA nA cA] [] [sA] (fun v' l'=>∃ok P,v'=.bool ok∧(∃c',cs=P++c')∧P.sum=64∧(ok=true→AllLe P 31)∧l'=[]):=by
 refine Zi Tryz.func9 rfl fun w0=>?_
 refine G.seq ?_
 have hlA:=hA.lenN
 refine YG ?_
 refine Y2 ?_
 refine Zcp [] [0] (c_FseRead sA qA nA cA jA xsA hA paA Om cs E Oa Om hD Om hL) rfl ?_
 rintro _ _ ⟨q1,b2,o3,cs4,cap5,xs6,n7,q12,b13,o14,cs15,cap16,xs17,n18,rfl,hg8,hc9,hp10,hl11,hg19,hc20,hp21,hl22,hx23,rfl⟩
 refine Ya ?_
 refine Z4 (G.seq ?_)
 obtain⟨⟨c',hcs⟩,hsum,hys⟩:=hx23
 have hxa:AllLe xs6 63:=fun x hx=>ha63 x (hcs▸List.mem_append_left _ hx)
 have hxl:xs6.length≤256:=by have h9:=congrArg List.length hcs;rw[List.length_append] at h9;omega
 refine YG ?_
 refine Yy (Zlen un_25) ?_
 refine Zn (G.block ?_)
 refine Zo (fun mz ρ l=>∃i:Nat,∃ok:Bool,mz=n7-i∧(i≤n7)∧(ok=true→AllLe (xs6.take i) 31)∧ρ=[(2,.bool false),(4,Vh 6),(6,.bool ok),(16,.slice q1 n7 cap5),(17,Vh n7),(18,Vh i)]∧l=[⟨b2,o3,cs4,none⟩,⟨b13,o14,cs15,none⟩]) ⟨0,true,rfl,Om,(fun _ x hx=>by simp at hx),rfl,rfl⟩ ?_ (hs:=rfl)
 rintro _ _ _ ⟨i,ok,rfl,hi,hk,rfl,rfl⟩
 refine Y5 ?_
 refine Yy (Zlt i n7) ?_
 refine Z4 ?_
 refine Zc (fun h24=>?_) (fun h24=>?_)
 refine Z7 (G.seq (G.block (Y5 ?_)))
 refine Yy (y_ixG (q':=o3+i) (m:=i) rfl rfl rfl se_25 Om (hg8.some' Om) Om) ?_
 refine Yr (Zlc 0 i ag_3 rfl (pre_get hp10 Ou)) ?_
 refine Zn ?_
 have hx63:=hxa.at_ i
 refine G.region (Za 2 ?_)
 refine GL.splitB (t:=23) (b:=ok) rfl (fun hok=>?_) (fun hok=>?_)
 refine Ya ?_
 refine Zy (Zle 6 12) ?_
 refine Za 2 ?_
 refine GL.knowT (t:=27) (p:=((6:Nat):Int)≤((12:Nat):Int)) rfl Om ?_
 refine Ya ?_
 refine Yy (ZmulNh 2 (xs6.getD i 0)) ?_
 refine Yy (Zq 64 (ZshlNh 1 6) Od) ?_
 refine Yy (Zlt (2*(xs6.getD i 0)) 64) ?_
 refine GL.nil (GQ.blockN (GQ.thenN (YG ?_)))
 refine Yy (ZaddNh i 1) ?_
 refine GL.nil ?_
 exact Zb ⟨(i+1),(decide (((2*(xs6.getD i 0):Nat):Int)<((64:Nat):Int))),rfl,Om,(fun h=>(hk hok).step Om (by have h9:=of_decide_eq_true h;omega)),rfl,rfl⟩
 refine Ya ?_
 refine GL.nil (GQ.blockN (GQ.thenN (YG ?_)))
 refine Yy (ZaddNh i 1) ?_
 refine GL.nil ?_
 exact Zb ⟨(i+1),false,rfl,Om,(fun h=>by cases h),rfl,rfl⟩
 refine G.exit (GQ.thenE (GQ.thenE (GQ.blockE (GQ.thenN (Y5 ?_)))))
 refine Zn (G.ret ?_)
 repeat first|refine ZR ?_|refine ZB ?_
 exact ret1 [] rfl rfl rfl (⟨_,_,rfl,⟨c',hcs⟩,hsum,fun h=>by have h9:=hk h;rwa [List.take_of_length_le Om] at h9,rfl⟩)
theorem c_back (sA:Seg) (qA:Option Addr) (nA cA jA:Nat) (xsA:List Nat) (hA:Rd qA nA 1 (nats .u8 xsA) sA jA) (hb:Bytes xsA) (h0:0<nA) (hl:xsA.getD (nA-1) 0≠0) (hz:nA≤1048576):Con Tryz.prog 73 [.slice qA nA cA] [] [sA] (fun v' l'=>∃bk lf:Nat,v'=.tuple #[Vp bk 0,.bool true]∧lf≤8*nA∧l'=[⟨bk,0,[.slice qA nA cA,.int .i64 ((lf:Nat))],(some (141,2))⟩]):=by
 refine Zi Tryz.func73 rfl fun w0=>?_
 refine G.seq ?_
 have hlA:=hA.lenN
 refine YG ?_
 refine Z4 (G.seq ?_)
 have hbl:=hb.at_ (nA-1)
 refine YG ?_
 refine Yy (Zlen un_22) ?_
 refine Zy (Zeq nA 0) ?_
 refine Za 1 ?_
 refine GL.knowF (t:=7) (p:=((nA:Nat):Int)=((0:Nat):Int)) rfl Om ?_
 refine Ya ?_
 refine Yy (Zlen un_22) ?_
 refine Yy (ZsubNh nA 1) ?_
 refine Yy (y_ixG (q':=sA.o+(jA+(nA-1))) (m:=nA-1) rfl rfl rfl se_22 Om (hA.ad Om) Om) ?_
 refine Yr (Zkc 0 (jA+(nA-1)) ag_5 rfl (hA.getN Om)) ?_
 refine Yy (Zeq (xsA.getD (nA-1) 0) 0) ?_
 refine Zn ?_
 refine G.condDF rfl Om ?_
 refine Z7 (G.seq ?_)
 have hbq:=blen_le (n:=xsA.getD (nA-1) 0) (k:=8) Om
 refine YG ?_
 refine Yy (Zlen un_22) ?_
 refine Yy (ZsubNh nA 1) ?_
 refine Yy (ZmulNh 8 (nA-1)) ?_
 refine Yy (Zlen un_22) ?_
 refine Yy (ZsubNh nA 1) ?_
 refine Yy (y_ixG (q':=sA.o+(jA+(nA-1))) (m:=nA-1) rfl rfl rfl se_22 Om (hA.ad Om) Om) ?_
 refine Yr (Zkc 0 (jA+(nA-1)) ag_5 rfl (hA.getN Om)) ?_
 refine Yy (ZcvNh (xsA.getD (nA-1) 0) un_5 un_3) ?_
 refine Zcc [] [] (c_highBit (xsA.getD (nA-1) 0) Om Om) rfl ?_
 refine Yy (ZaddNh (8*(nA-1)) (blen (xsA.getD (nA-1) 0)-1)) ?_
 refine Yy (y_bd (ps:=[(0,.tmp 16),(1,.tmp 29)]) (pv:=[(0,.slice qA nA cA),(1,Vh ((8*(nA-1))+(blen (xsA.getD (nA-1) 0)-1)))]) (vs:=[.slice qA nA cA,Vh ((8*(nA-1))+(blen (xsA.getD (nA-1) 0)-1))]) rfl ⟨rfl,rfl⟩ st_141 zc_141 Ov) ?_
 refine Ze (e_box rfl rfl rfl rfl rfl) fun b1=>?_
 refine Ya ?_
 refine Zn (G.ret ?_)
 repeat first|refine ZR ?_|refine ZB ?_
 exact ret2 [0] rfl rfl rfl rfl (⟨_,_,rfl,by have h9:=blen_le (n:=xsA.getD (nA-1) 0) (k:=8) Om;omega,rfl⟩)
theorem c_bitAtN (sA:Seg) (qA:Option Addr) (nA cA jA:Nat) (xsA:List Nat) (hA:Rd qA nA 1 (nats .u8 xsA) sA jA) (p:Int) (hp:p<0) (hp2: -9223372036854775808≤p):Con Tryz.prog 74 [.slice qA nA cA,.int .i64 (p)] [] [sA] (fun v' l'=>∃x:Nat,∃ok,v'=.tuple #[.int .i64 (x:Nat),.bool ok]∧x<2∧l'=[]):=by
 refine Zi Tryz.func74 rfl fun w0=>?_
 refine Y5 ?_
 refine Y3 ?_
 refine Zy (y_lt (a:=p) (b:=((0:Nat):Int)) rfl rfl rfl) ?_
 refine Za 1 ?_
 refine GL.knowT (t:=8) (p:=p<((0:Nat):Int)) rfl Om ?_
 refine Ya ?_
 refine Zn (G.condT rfl (Y5 ?_))
 refine Zn (G.ret ?_)
 repeat first|refine ZR ?_|refine ZB ?_
 exact ret2 [] rfl rfl rfl rfl (⟨0,_,rfl,Om,rfl⟩)
theorem c_bitAtI (sA:Seg) (qA:Option Addr) (nA cA jA:Nat) (xsA:List Nat) (hA:Rd qA nA 1 (nats .u8 xsA) sA jA) (p:Int) (hb:Bytes xsA) (hp: -9223372036854775808≤p∧p<9223372036854775808) (hz:nA≤1152921504606846976):Con Tryz.prog 74 [.slice qA nA cA,.int .i64 p] [] [sA] (fun v' l'=>∃x:Nat,∃ok,v'=.tuple #[.int .i64 (x:Nat),.bool ok]∧x<2∧l'=[]):=by
  by_cases h:p<0
  · exact c_bitAtN sA qA nA cA jA xsA hA p h hp.1
  · obtain⟨m,rfl⟩:∃m:Nat,p=m:=⟨p.toNat,Om⟩
    exact(c_bitAt sA qA nA cA jA xsA hA m hb Om hz).mono fun v l ⟨h1,h2⟩=>⟨_,_,h1,bitN_lt _ _,h2⟩
theorem c_btake (sA:Seg) (qA:Option Addr) (nA cA jA:Nat) (xsA:List Nat) (hA:Rd qA nA 1 (nats .u8 xsA) sA jA) (bk:Nat) (lf:Int) (n:Nat) (hb:Bytes xsA) (hn:n≤16) (hlf: -1000000000000≤lf∧lf≤1000000000000) (hz:nA≤1048576):Con Tryz.prog 52 [Vp bk 0,Vh n] [⟨bk,0,[.slice qA nA cA,.int .i64 (lf)],(some (141,2))⟩] [sA] (fun v' l'=>∃x:Nat,v'=.int .i64 (x:Nat)∧x<2^n∧l'=[⟨bk,0,[.slice qA nA cA,.int .i64 (lf-(n:Nat))],(some (141,2))⟩]):=by
 refine Zi Tryz.func52 rfl fun w0=>?_
 refine G.seq ?_
 have hlA:=hA.lenN
 refine YG ?_
 refine Y2 ?_
 refine Y3 ?_
 refine Zn (G.block ?_)
 refine Zo (fun mz ρ l=>∃i x:Nat,∃lg:Int,mz=n-i∧(i≤n∧lg=lf-i)∧(x<2^i)∧ρ=[(0,Vp bk 0),(4,Vh 0),(5,Vh x),(8,Vh n),(9,Vh i)]∧l=[⟨bk,0,[.slice qA nA cA,.int .i64 (lg)],(some (141,2))⟩]) ⟨0,0,lf,rfl,⟨Om,Om⟩,Od,rfl,rfl⟩ ?_
 rintro _ _ _ ⟨i,x,lg,rfl,hi,hx,rfl,rfl⟩
 refine Y5 ?_
 refine Yy (Zlt i n) ?_
 refine Z4 ?_
 refine Zc (fun h1=>?_) (fun h1=>?_)
 refine Z7 (G.seq (G.block (Y5 ?_)))
 refine Yy (Zf fo_141_1) ?_
 refine Yr (Zl 0 1 ag_3) ?_
 refine Yy (subI_i64 (a:=lg) (b:=((1:Nat):Int)) rfl rfl rfl Om) ?_
 refine Yy (Zf fo_141_1) ?_
 refine Ys (Zst 0 1 sz_3) ?_
 refine Z4 ?_
 refine Zg 256 [y_0,y_1,y_2,r_3,y_4,y_5,y_6,r_7,e_8,y_9,y_10,y_11,y_12,y_13] ?_
 refine Ypa ?_
 refine Ypy (Zf fo_141_0) ?_
 refine Ypr (Zl 0 0 ag_22) ?_
 refine Ypy (Zf fo_141_1) ?_
 refine Ypr (Zl 0 1 ag_3) ?_
 refine Zpcp [] [1] (c_bitAtI sA qA nA cA jA xsA hA (lg-((1:Nat):Int)) Oa Om Om) rfl ?_
 rintro _ _ ⟨x2,ok3,rfl,hx4,rfl⟩
 refine Ypa ?_
 refine GP.nil (GQ.thenN ?_)
 have h16:=pow_le (show i≤16 by omega)
 refine YG ?_
 refine Yy (ZmulNh 2 x) ?_
 refine Yy (ZaddNh (2*x) x2) ?_
 refine GL.nil (GQ.blockN (GQ.thenN (YG ?_)))
 refine Yy (ZaddNh i 1) ?_
 refine GL.nil ?_
 exact Zb ⟨(i+1),((2*x)+x2),(lg-((1:Nat):Int)),rfl,⟨Om,Om⟩,(by rw[Nat.pow_succ];omega),rfl,rfl⟩
 refine G.exit (GQ.thenE (GQ.thenE (GQ.blockE (GQ.thenN (Y5 ?_)))))
 refine Zn (G.ret ?_)
 repeat first|refine ZR ?_|refine ZB ?_
 exact ret1 [0] rfl rfl rfl (⟨_,rfl,by have e:i=n:=Om;rw[←e];exact hx,by rw[hi.2,show i=n by omega]⟩)
theorem c_begun (sA:Seg) (qA:Option Addr) (nA cA jA:Nat) (xsA:List Nat) (hA:Rd qA nA 1 (nats .u8 xsA) sA jA)  (hb:Bytes xsA) (h0:0<nA) (hl:xsA.getD (nA-1) 0≠0) (hz:nA≤1048576):Con Tryz.prog 51 [.slice qA nA cA,Vh 6] [] [sA] (fun v' l'=>∃bk:Nat,∃lf:Int,∃x y:Nat,∃ok,v'=.tuple #[Vp bk 0,.agg #[.int .i64 (x:Nat),.int .i64 (y:Nat)],.bool ok]∧x<2^6∧y<2^6∧(-12≤lf∧lf≤8*nA)∧l'=[⟨bk,0,[.slice qA nA cA,.int .i64 (lf)],(some (141,2))⟩]):=by
 refine Zi Tryz.func51 rfl fun w0=>?_
 refine G.seq ?_
 have hlA:=hA.lenN
 refine YG ?_
 refine Ze (Zal zc_137) fun b1=>?_
 refine Ya ?_
 refine Y2 ?_
 refine Zcp [] [1] (c_back sA qA nA cA jA xsA hA Oa Om Oa Om) rfl ?_
 rintro _ _ ⟨bk2,lf3,rfl,hlf4,rfl⟩
 refine Ya ?_
 refine Y3 ?_
 refine Yy (y_notB rfl rfl) ?_
 refine Zn (G.condF rfl (Y8 ?_))
 refine Zcp [0] [1] (c_btake sA qA nA cA jA xsA hA bk2 ((lf3:Nat):Int) 6 Oa Om Om Om) rfl ?_
 rintro _ _ ⟨x5,rfl,hx6,rfl⟩
 refine Ya ?_
 refine Y2 ?_
 refine Zcp [0] [1] (c_btake sA qA nA cA jA xsA hA bk2 (((lf3:Nat):Int)-(6:Nat)) 6 Oa Om Om Om) rfl ?_
 rintro _ _ ⟨x7,rfl,hx8,rfl⟩
 refine Ya ?_
 refine Z4 ?_
 refine Zh 1160 (YS 0 (YS 1 (YS 2 (YS 4 (YS 5 (YS 6 (YS 9 (YE 3 (YE 7 (YS 8 (YF 10 (YS 11 .nil))) (YF 10 (YF 7 (YS 8 (YS 11 .nil))))) (YF 7 (YS 8 (YF 3 (YF 10 (YS 11 .nil))))))))))))) ?_
 refine Yta ?_
 refine Yty (Zf fo_141_1) ?_
 refine Ytx (OpY.toR (y_bda (ps:=[(0,.tmp 26),(1,.tmp 27)]) (pv:=[(0,Vh x5),(1,Vh x7)]) (vs:=[Vh x5,Vh x7]) rfl ⟨rfl,rfl⟩ ae_137 zc_137 Ov)) ?_ ?_
 refine Ytx (Zl 0 1 ag_3) ?_ ?_
 refine Yty (y_ge (a:=((((lf3:Nat):Int)-(6:Nat))-(6:Nat))) (b:=((0:Nat):Int)) rfl rfl rfl) ?_
 refine Ytt (Zsw 1 sz_137) ?_
 refine GT.nil (GQ.thenN (G.ret ?_))
 repeat first|refine ZR ?_|refine ZB ?_
 exact ret3c [0] 1 0 rfl rfl rfl rfl ag_137 sz_137 rfl rfl rfl rfl rfl (⟨_,_,x5,x7,_,rfl,hx6,hx8,Om,rfl⟩)
 refine Ytt (Zsw 1 sz_137) ?_
 refine Ytu (Zl 0 1 ag_3) ?_
 refine Yty (y_ge (a:=((((lf3:Nat):Int)-(6:Nat))-(6:Nat))) (b:=((0:Nat):Int)) rfl rfl rfl) ?_
 refine GT.nil (GQ.thenN (G.ret ?_))
 repeat first|refine ZR ?_|refine ZB ?_
 exact ret3c [0] 1 0 rfl rfl rfl rfl ag_137 sz_137 rfl rfl rfl rfl rfl (⟨_,_,x5,x7,_,rfl,hx6,hx8,Om,rfl⟩)
 refine Ytu (Zl 0 1 ag_3) ?_
 refine Yty (y_ge (a:=((((lf3:Nat):Int)-(6:Nat))-(6:Nat))) (b:=((0:Nat):Int)) rfl rfl rfl) ?_
 refine Ytu (OpY.toR (y_bda (ps:=[(0,.tmp 26),(1,.tmp 27)]) (pv:=[(0,Vh x5),(1,Vh x7)]) (vs:=[Vh x5,Vh x7]) rfl ⟨rfl,rfl⟩ ae_137 zc_137 Ov)) ?_
 refine Ytt (Zsw 1 sz_137) ?_
 refine GT.nil (GQ.thenN (G.ret ?_))
 repeat first|refine ZR ?_|refine ZB ?_
 exact ret3c [0] 1 0 rfl rfl rfl rfl ag_137 sz_137 rfl rfl rfl rfl rfl (⟨_,_,x5,x7,_,rfl,hx6,hx8,Om,rfl⟩)
theorem c_twoStates (sA:Seg) (qA:Option Addr) (nA cA jA:Nat) (xsA:List Nat) (hA:Rd qA nA 1 (nats .u8 xsA) sA jA) (qT:Option Addr) (bT oT:Nat) (csT:List Value) (capT:Nat) (T:List (Nat × Nat × Nat)) (nT:Nat) (hgT:GS qT bT oT csT 3 capT) (hcT:nT≤capT) (hpT:csT.take (nT*3)=rows f3 T) (hlT:T.length=nT)   (cs:List Nat) (hC:CountsB 6 cs) (hT:T=tableF 6 cs) (hb:Bytes xsA) (h0:0<nA) (hl:xsA.getD (nA-1) 0≠0) (hz:nA≤1048576):Con Tryz.prog 28 [.slice qA nA cA,.slice qT nT capT,Vh 6,Vh 255] [] [sA,⟨bT,oT,csT,none⟩] (AppU .u8 (fun ys=>ys.length≤257∧Bytes ys)):=by
 refine Zi Tryz.func28 rfl fun w0=>?_
 refine G.seq ?_
 have hlA:=hA.lenN
 have hn64:nT=64:=by rw[←hlT,hT,tableF_length]
 have hcl:=hC.len
 refine YG ?_
 refine Y2 ?_
 refine Zcp [] [0] (c_begun sA qA nA cA jA xsA hA Oa Om Oa Om) rfl ?_
 rintro _ _ ⟨bk1,lf2,x3,y4,ok5,rfl,hx6,hy7,hlf8,rfl⟩
 refine Ya ?_
 refine Ze (Zal zc_137) fun b9=>?_
 refine Ya ?_
 refine Ys (Zsw 0 sz_137) ?_
 refine Y3 ?_
 refine Yy (y_notB rfl rfl) ?_
 refine Zn ?_
 refine G.cond rfl (fun hnk=>?_) (fun hnk=>?_)
 refine Y5 ?_
 refine Zn (G.ret ?_)
 refine GQ.addE ?_
 repeat first|refine ZR ?_|refine ZB ?_
 exact ret2 [0] rfl rfl rfl rfl (AppU.no ⟨Oi,fun x hx=>by simp at hx⟩)
 refine Z7 (G.seq ?_)
 refine G.lists (l':=[⟨b9,0,(nats .i64 [x3,y4]),none⟩,⟨bk1,0,[.slice qA nA cA,.int .i64 (lf2)],(some (141,2))⟩]) rfl ?_
 have hA0:AllLe [x3,y4] 63:=fun z hz=>by simp only[List.mem_cons,List.not_mem_nil,or_false] at hz;omega
 refine YG ?_
 refine Y2 ?_
 refine Zn (G.block ?_)
 refine G.addE ?_
 refine Zo (fun mz ρ l=>∃tn:Nat,∃lg:Int,∃A:List Nat,∃qp:Option Addr,∃bp op:Nat,∃csp:List Value,∃capp:Nat,∃P:List Nat,∃m:Nat,mz=256-m∧(GS qp bp op csp 1 capp)∧(m≤capp)∧(csp.take m=nats .u8 P)∧(P.length=m)∧(tn≤1∧m≤255∧ -12-6*(m:Int)≤lg∧lg≤8*nA)∧(A.length=2)∧(AllLe A 63)∧(Bytes P)∧ρ=[(1,.slice qT nT capT),(3,Vh 255),(10,Vp bk1 0),(11,Vp b9 0),(13,.slice qp m capp),(14,Vh tn)]∧l=[⟨bp,op,csp,none⟩,⟨b9,0,(nats .i64 A),none⟩,⟨bk1,0,[.slice qA nA cA,.int .i64 (lg)],(some (141,2))⟩]) ⟨0,lf2,[x3,y4],none,0,0,[],0,[],0,rfl,⟨rfl,.inr ⟨rfl,rfl⟩⟩,(Nat.le_refl _),rfl,Ow,⟨Om,Om,Om,Om⟩,rfl,hA0,(fun x hx=>by cases hx),rfl,rfl⟩ ?_ (hs:=rfl)
 rintro _ _ _ ⟨tn,lg,A,qp,bp,op,csp,capp,P,m,rfl,hgp,hcp,hpp,hlp,hi,hAl,hAa,hPb,rfl,rfl⟩
 refine G.seq (G.block (G.seq ?_))
 obtain⟨a,ha⟩:∃a,a=A.getD tn 0:=⟨_,rfl⟩
 have ha63:a≤63:=ha▸hAa.at_ tn
 have hb63:=hAa.at_ (1-tn)
 have hk9:(T.getD a (0,0,0)).1<cs.length∧(T.getD a (0,0,0)).2.1≤6∧(T.getD a (0,0,0)).2.2+2^(T.getD a (0,0,0)).2.1≤64:=by have h9:=tableF_cell hC (u:=a) Om;rw[←hT] at h9;exact h9
 have hk8:(T.getD (A.getD (1-tn) 0) (0,0,0)).1<cs.length∧(T.getD (A.getD (1-tn) 0) (0,0,0)).2.1≤6∧(T.getD (A.getD (1-tn) 0) (0,0,0)).2.2+2^(T.getD (A.getD (1-tn) 0) (0,0,0)).2.1≤64:=by have h9:=tableF_cell hC (u:=(A.getD (1-tn) 0)) Om;rw[←hT] at h9;exact h9
 refine YG ?_
 refine Yy (Zxb tn tn ae_137) ?_
 refine Yr (Zqr a (r_ld 1 tn rfl rfl rfl ag_3 (Nat.zero_add _).symm (nats_get Oy)) ha.symm) ?_
 refine Yy (y_ixG (q':=oT+(a*3)) (m:=a) rfl rfl rfl se_61 Om (hgT.some' Om) Om) ?_
 refine Yr (r_ldar (vs:=f3 (T.getD a (0,0,0))) 1 (a*3) rfl rfl rfl ag_135 sz_135 rfl (preR_get f3_len _ hpT (by first|assumption|omega) Om) rfl) ?_
 refine Ze (Zal zc_135) fun b10=>?_
 refine Ys (Zsw 0 sz_135) ?_
 refine Y2 ?_
 refine Yy (Zf fo_135_0) ?_
 refine Yr (Zl 0 0 ag_3) ?_
 refine Yy (ZcvNa ((T.getD a (0,0,0)).1) un_3 un_5) ?_
 refine Ze (e_bs (ps:=[(0,.tmp 37)]) (pv:=[(0,Va ((T.getD a (0,0,0)).1))]) (vs:=[Va ((T.getD a (0,0,0)).1)]) 1 rfl ⟨rfl,rfl⟩ el_22 Od Ov rfl rfl) fun b11=>?_
 refine GL.eff (e_appN (k:=.u8) (n:=m) (m:=1) (xs:=P) (ys:=[(T.getD a (0,0,0)).1]) 2 rfl rfl rfl rfl el_22 rfl rfl hgp hpp (Src.ofL 0 0 rfl rfl rfl) Oq rfl rfl) rfl ?_
 rintro _ _ ⟨q12,b13,o14,cs15,cap16,hg17,hc18,ht19,rfl,rfl⟩
 refine Ya ?_
 refine Z4 (G.seq ?_)
 have hP2:Bytes (P++[(T.getD a (0,0,0)).1]):=all_snoc hPb Om
 refine YG ?_
 refine Yy (Zlen un_22) ?_
 refine Yy (Zgt (m+1) 255) ?_
 refine Zn ?_
 refine Zc (fun h20=>?_) (fun h20=>?_)
 refine Y5 ?_
 refine Zn (G.ret ?_)
 refine GQ.addE ?_
 repeat first|refine ZR ?_|refine ZB ?_
 exact ret2 [0] rfl rfl rfl rfl (AppU.no ⟨Oi,fun x hx=>by simp at hx⟩)
 refine Y8 ?_
 refine Yy (Zf fo_135_1) ?_
 refine Yr (Zl 1 1 ag_3) ?_
 refine Zcp [4] [4] (c_btake sA qA nA cA jA xsA hA bk1 lg ((T.getD a (0,0,0)).2.1) Oa Om Om Om) rfl ?_
 rintro _ _ ⟨x21,rfl,hx22,rfl⟩
 refine Ya ?_
 refine Z4 (G.seq ?_)
 have hvx:=hx22
 refine YG ?_
 refine Yy (Zf fo_141_1) ?_
 refine Yr (Zl 0 1 ag_3) ?_
 refine Yy (y_lt (a:=(lg-((T.getD a (0,0,0)).2.1:Nat))) (b:=((0:Nat):Int)) rfl rfl rfl) ?_
 refine Zn ?_
 refine Zc (fun h23=>?_) (fun h23=>?_)
 refine Y5 ?_
 refine Yy (ZsubNh 1 tn) ?_
 refine Yy (Zxb (1-tn) (1-tn) ae_137) ?_
 refine Yr (r_ld 4 (1-tn) rfl rfl rfl ag_3 (Nat.zero_add _).symm (nats_get Oy)) ?_
 refine Yy (y_ixG (q':=oT+((A.getD (1-tn) 0)*3)) (m:=A.getD (1-tn) 0) rfl rfl rfl se_61 Om (hgT.some' Om) Om) ?_
 refine Yy (Zf fo_135_0) ?_
 refine Yr (Zkc 1 ((A.getD (1-tn) 0)*3) ag_3 rfl (preR_fst hpT hlT Om)) ?_
 refine Yy (ZcvNa ((T.getD (A.getD (1-tn) 0) (0,0,0)).1) un_3 un_5) ?_
 refine Ze (e_bs (ps:=[(0,.tmp 62)]) (pv:=[(0,Va ((T.getD (A.getD (1-tn) 0) (0,0,0)).1))]) (vs:=[Va ((T.getD (A.getD (1-tn) 0) (0,0,0)).1)]) 1 rfl ⟨rfl,rfl⟩ el_22 Od Ov rfl rfl) fun b24=>?_
 refine GL.eff (e_appN (k:=.u8) (n:=m+1) (m:=1) (xs:=P++[(T.getD a (0,0,0)).1]) (ys:=[(T.getD (A.getD (1-tn) 0) (0,0,0)).1]) 4 rfl rfl rfl rfl el_22 rfl rfl hg17 ht19 (Src.ofL 0 0 rfl rfl rfl) Oq rfl rfl) rfl ?_
 rintro _ _ ⟨q25,b26,o27,cs28,cap29,hg30,hc31,ht32,rfl,rfl⟩
 refine Ya ?_
 refine Z4 ?_
 have hP3:Bytes ((P++[(T.getD a (0,0,0)).1])++[(T.getD (A.getD (1-tn) 0) (0,0,0)).1]):=all_snoc hP2 Om
 refine YG ?_
 refine Yy (Zlen un_22) ?_
 refine Yy (Zle ((m+1)+1) 255) ?_
 refine Zn (G.ret ?_)
 repeat first|refine ZR ?_|refine ZB ?_
 exact ret2 [4] rfl rfl rfl rfl (AppU.mk hg30 hc31 ht32 (by rw[List.length_append,List.length_append];simp;omega) ⟨by rw[List.length_append,List.length_append];simp;omega,hP3⟩)
 refine Y8 ?_
 refine Yy (Zf fo_135_2) ?_
 refine Yr (Zl 2 2 ag_3) ?_
 refine Yy (ZaddNh ((T.getD a (0,0,0)).2.2) x21) ?_
 refine Yy (Zxb tn tn ae_137) ?_
 refine Ys (Zsu 4 tn sz_3) ?_
 refine Y2 ?_
 refine Yy (Zxb tn tn ae_137) ?_
 refine Yr (r_ld 4 tn rfl rfl rfl ag_3 (Nat.zero_add _).symm (nats_get Oy)) ?_
 refine Zy (Zlt ((A.set tn (((T.getD a (0,0,0)).2.2)+x21)).getD tn 0) 0) ?_
 refine Za 1 ?_
 refine GL.knowF (t:=80) (p:=(((A.set tn (((T.getD a (0,0,0)).2.2)+x21)).getD tn 0:Nat):Int)<((0:Nat):Int)) rfl Om ?_
 refine Ya ?_
 refine Yy (Zxb tn tn ae_137) ?_
 refine Yr (r_ld 4 tn rfl rfl rfl ag_3 (Nat.zero_add _).symm (nats_get Oy)) ?_
 refine Yy (Zlen un_61) ?_
 refine Yy (Zge ((A.set tn (((T.getD a (0,0,0)).2.2)+x21)).getD tn 0) nT) ?_
 refine Zn ?_
 refine Zc (fun h33=>?_) (fun h33=>?_)
 refine Y5 ?_
 refine Zn (G.ret ?_)
 refine GQ.addE ?_
 repeat first|refine ZR ?_|refine ZB ?_
 exact ret2 [0] rfl rfl rfl rfl (AppU.no ⟨Oi,fun x hx=>by simp at hx⟩)
 refine G.skip (GQ.blockN (GQ.thenN (YG ?_)))
 refine Yy (ZsubNh 1 tn) ?_
 refine GL.nil ?_
 refine GQ.pick [3,3,0] rfl ?_
 exact Zb ⟨(1-tn),(lg-((T.getD a (0,0,0)).2.1:Nat)),(A.set tn (((T.getD a (0,0,0)).2.2)+x21)),q12,b13,o14,cs15,cap16,(P++[(T.getD a (0,0,0)).1]),(m+1),rfl,hg17,hc18,ht19,Ow,⟨Om,Om,Om,Om⟩,(by rw[List.length_set];exact hAl),(fit hAa Om),hP2,rfl,rfl⟩
theorem c_weights (sA:Seg) (qA:Option Addr) (nA cA jA:Nat) (xsA:List Nat) (hA:Rd qA nA 1 (nats .u8 xsA) sA jA) (paA:PA qA cA) (hcA:nA≤cA) (hb:Bytes xsA) (hz:nA≤1048576) (hT:TreeAny xsA):Con Tryz.prog 15 [.slice qA nA cA] [] [sA] (AppW (fun ys=>ys.length≤257∧AllLe ys 255)):=by
 refine Zi Tryz.func15 rfl fun w0=>?_
 refine G.seq ?_
 have hlA:=hA.lenN
 refine YG ?_
 refine Y3 ?_
 refine Yy (Zlen un_22) ?_
 refine Yy (Zeq nA 0) ?_
 refine Zn ?_
 refine Zc (fun h1=>?_) (fun h1=>?_)
 refine Y5 ?_
 refine Zn (G.ret ?_)
 refine GQ.addE ?_
 repeat first|refine ZR ?_|refine ZB ?_
 exact ret3 [0] rfl rfl rfl rfl rfl (AppW.no ⟨Oi,fun x hx=>by simp at hx⟩)
 refine Z7 (G.seq ?_)
 have hx0:=hb.at_ 0
 refine YG ?_
 refine Yy (y_ixG (q':=sA.o+(jA+0)) (m:=0) rfl rfl rfl se_22 Om (hA.ad Om) Om) ?_
 refine Yr (Zkc 0 (jA+0) ag_5 rfl (hA.getN Om)) ?_
 refine Yy (ZcvNh (xsA.getD 0 0) un_5 un_3) ?_
 refine Y3 ?_
 refine Yy (Zge (xsA.getD 0 0) 128) ?_
 refine Zn ?_
 refine Zc (fun h128=>?_) (fun h128=>?_)
 refine Y5 ?_
 refine Yy (ZsubNh (xsA.getD 0 0) 127) ?_
 refine Y3 ?_
 refine Yy (ZaddNh ((xsA.getD 0 0)-127) 1) ?_
 refine Yy (ZquoNh (((xsA.getD 0 0)-127)+1) 2) ?_
 refine Yy (ZaddNh 1 ((((xsA.getD 0 0)-127)+1)/2)) ?_
 refine Yy (Zlen un_22) ?_
 refine Yy (Zgt (1+((((xsA.getD 0 0)-127)+1)/2)) nA) ?_
 refine Zn ?_
 refine Zc (fun hlong=>?_) (fun hlong=>?_)
 refine Y5 ?_
 refine Zn (G.ret ?_)
 refine GQ.addE ?_
 repeat first|refine ZR ?_|refine ZB ?_
 exact ret3 [0] rfl rfl rfl rfl rfl (AppW.no ⟨Oi,fun x hx=>by simp at hx⟩)
 refine Y8 ?_
 refine Y3 ?_
 refine Zn (G.block ?_)
 refine G.addE ?_
 refine Zo (fun mz ρ l=>∃i:Nat,∃qp:Option Addr,∃bp op:Nat,∃csp:List Value,∃capp:Nat,∃P:List Nat,∃m:Nat,mz=xsA.getD 0 0-127-i∧(GS qp bp op csp 1 capp)∧(m≤capp)∧(csp.take m=nats .i64 P)∧(P.length=m)∧(i≤xsA.getD 0 0-127∧m=i)∧(AllLe P 255)∧ρ=[(0,.slice qA nA cA),(2,.slice none 0 0),(3,Vh 0),(4,.bool false),(5,Vh ((xsA.getD 0 0)-127)),(6,.slice qp m capp),(36,Vh ((xsA.getD 0 0)-127)),(37,Vh i)]∧l=[⟨bp,op,csp,none⟩]) ⟨0,none,0,0,[],0,[],0,rfl,⟨rfl,.inr ⟨rfl,rfl⟩⟩,(Nat.le_refl _),rfl,Ow,⟨Om,rfl⟩,(fun x hx=>by cases hx),rfl,rfl⟩ ?_ (hs:=rfl)
 rintro _ _ _ ⟨i,qp,bp,op,csp,capp,P,m,rfl,hgp,hcp,hpp,hlp,hi,hPa,rfl,rfl⟩
 refine Y5 ?_
 refine Yy (Zlt i ((xsA.getD 0 0)-127)) ?_
 refine Z4 ?_
 refine Zc (fun h2=>?_) (fun h2=>?_)
 refine Z7 (G.seq (G.block (Y5 ?_)))
 refine Z4 ?_
 have hxi:=hb.at_ (1+i/2)
 refine YG ?_
 refine Yy (ZquoNh i 2) ?_
 refine Yy (ZaddNh 1 (i/2)) ?_
 refine Yy (y_ixG (q':=sA.o+(jA+(1+(i/2)))) (m:=1+(i/2)) rfl rfl rfl se_22 Om (hA.ad Om) Om) ?_
 refine Yr (Zkc 0 (jA+(1+(i/2))) ag_5 rfl (hA.getN Om)) ?_
 refine Yy (ZcvNh (xsA.getD (1+(i/2)) 0) un_5 un_3) ?_
 refine Y3 ?_
 refine Yy (ZremNh i 2) ?_
 refine Yy (Zeq (i%2) 0) ?_
 refine Zn ?_
 refine Zc (fun hev=>?_) (fun hev=>?_)
 refine YG ?_
 refine Yy (ZquoNh (xsA.getD (1+(i/2)) 0) 16) ?_
 refine Y1 ?_
 refine Yy (ZremNh ((xsA.getD (1+(i/2)) 0)/16) 16) ?_
 refine Ze (e_bs (ps:=[(0,.tmp 54)]) (pv:=[(0,Vh (((xsA.getD (1+(i/2)) 0)/16)%16))]) (vs:=[Vh (((xsA.getD (1+(i/2)) 0)/16)%16)]) 8 rfl ⟨rfl,rfl⟩ el_25 Od Ov rfl rfl) fun b3=>?_
 refine GL.eff (e_appN (k:=.i64) (n:=m) (m:=1) (xs:=P) (ys:=[((xsA.getD (1+(i/2)) 0)/16)%16]) 1 rfl rfl rfl rfl el_25 rfl rfl hgp hpp (Src.ofL 0 0 rfl rfl rfl) Oq rfl rfl) rfl ?_
 rintro _ _ ⟨q4,b5,o6,cs7,cap8,hg9,hc10,ht11,rfl,rfl⟩
 refine Ya ?_
 refine GL.nil (GQ.blockN (GQ.thenN (YG ?_)))
 refine Yy (ZaddNh i 1) ?_
 refine GL.nil ?_
 refine GQ.pick [1] rfl ?_
 exact Zb ⟨(i+1),q4,b5,o6,cs7,cap8,(P++[((xsA.getD (1+(i/2)) 0)/16)%16]),(m+1),rfl,hg9,hc10,ht11,Ow,⟨Om,Om⟩,(all_snoc hPa Om),rfl,rfl⟩
 refine Z7 (YG ?_)
 refine Yy (ZremNh (xsA.getD (1+(i/2)) 0) 16) ?_
 refine Ze (e_bs (ps:=[(0,.tmp 54)]) (pv:=[(0,Vh ((xsA.getD (1+(i/2)) 0)%16))]) (vs:=[Vh ((xsA.getD (1+(i/2)) 0)%16)]) 8 rfl ⟨rfl,rfl⟩ el_25 Od Ov rfl rfl) fun b12=>?_
 refine GL.eff (e_appN (k:=.i64) (n:=m) (m:=1) (xs:=P) (ys:=[(xsA.getD (1+(i/2)) 0)%16]) 1 rfl rfl rfl rfl el_25 rfl rfl hgp hpp (Src.ofL 0 0 rfl rfl rfl) Oq rfl rfl) rfl ?_
 rintro _ _ ⟨q13,b14,o15,cs16,cap17,hg18,hc19,ht20,rfl,rfl⟩
 refine Ya ?_
 refine GL.nil (GQ.blockN (GQ.thenN (YG ?_)))
 refine Yy (ZaddNh i 1) ?_
 refine GL.nil ?_
 refine GQ.pick [1] rfl ?_
 exact Zb ⟨(i+1),q13,b14,o15,cs16,cap17,(P++[(xsA.getD (1+(i/2)) 0)%16]),(m+1),rfl,hg18,hc19,ht20,Ow,⟨Om,Om⟩,(all_snoc hPa Om),rfl,rfl⟩
 refine G.exit (GQ.thenE (GQ.thenE (GQ.blockE (GQ.thenN (Y5 ?_)))))
 refine Yy (ZaddNh ((xsA.getD 0 0)-127) 1) ?_
 refine Yy (ZquoNh (((xsA.getD 0 0)-127)+1) 2) ?_
 refine Yy (ZaddNh 1 ((((xsA.getD 0 0)-127)+1)/2)) ?_
 refine Zn (G.ret ?_)
 repeat first|refine ZR ?_|refine ZB ?_
 exact ret3 [0] rfl rfl rfl rfl rfl (AppW.mk hgp hcp hpp hlp ⟨Om,hPa⟩)
 refine Z7 (Y6 ?_)
 refine Yy (ZaddNh 1 (xsA.getD 0 0)) ?_
 refine Yy (Zlen un_22) ?_
 refine Yy (Zgt (1+(xsA.getD 0 0)) nA) ?_
 refine Zn ?_
 refine Zc (fun hl5=>?_) (fun hl5=>?_)
 refine Y5 ?_
 refine Zn (G.ret ?_)
 refine GQ.addE ?_
 repeat first|refine ZR ?_|refine ZB ?_
 exact ret3 [0] rfl rfl rfl rfl rfl (AppW.no ⟨Oi,fun x hx=>by simp at hx⟩)
 obtain⟨cs,ws,b,hxb,hb127,hc13,ha63,hFB⟩:=hT.resolve_left Om
 have hn:xsA.getD 0 0=b.length:=by rw[hxb];rfl
 obtain⟨E,hD,hL,hr0,hr1,hr2⟩:=hFB.read
 have hcut:(xsA.drop 1).take (1+xsA.getD 0 0-1)=b:=by rw[hn,hxb];exact cut1 rfl
 have hbc:Bytes ((xsA.drop 1).take (1+xsA.getD 0 0-1)):=by rw[hcut];exact hFB.bytes
 have hLc:Low ((xsA.drop 1).take (1+xsA.getD 0 0-1)) (1+xsA.getD 0 0-1) 0 (lowB 1 4++E):=by rw[hcut,show 1+xsA.getD 0 0-1=b.length by omega];exact hL
 refine Y8 ?_
 refine Yy (ZaddNh 1 (xsA.getD 0 0)) ?_
 have hD21:Rd (cutA qA 1 1 cA) ((1+(xsA.getD 0 0))-1) 1 (nats .u8 ((xsA.drop 1).take ((1+(xsA.getD 0 0))-1))) sA (jA+1*1):=Rd.cut hA Om (by simp[nats,ints,List.map_take,List.map_drop]) (fun h0=>cutA_some (hA.ad Om) Om Om)
 refine Yy (y_slG (lo:=1) (hi:=1+(xsA.getD 0 0)) rfl rfl rfl rfl se_22 Om paA.nilcap) ?_
 refine Zcp [] [0] (c_FseRead sA (cutA qA 1 1 cA) ((1+(xsA.getD 0 0))-1) (cA-1) (jA+1*1) ((xsA.drop 1).take ((1+(xsA.getD 0 0))-1)) hD21 paA.cut Om cs E Oa Om hD Om hLc) rfl ?_
 rintro _ _ ⟨q22,b23,o24,cs25,cap26,xs27,n28,q33,b34,o35,cs36,cap37,xs38,n39,rfl,hg29,hc30,hp31,hl32,hg40,hc41,hp42,hl43,hx44,rfl⟩
 refine Ya ?_
 refine Z4 (G.seq ?_)
 obtain⟨⟨c',hcs⟩,hsum,hys⟩:=hx44
 have hCP:=CountsB.front Om ha63 hcs hsum
 rw[hcut] at hys
 have hr3:0<n39:=by rw[←hl43,hys];exact hr0
 have hr4:xs38.getD (n39-1) 0≠0:=by rw[←hl43,hys];exact hr1
 have hr5:Bytes xs38:=by rw[hys];exact fun x hx=>hFB.bytes x (List.mem_of_mem_drop hx)
 have hr6:n39≤127:=by rw[←hl43,hys,List.length_drop];omega
 refine YG ?_
 refine Yy (y_notB rfl rfl) ?_
 refine Yy (Zgt 6 6) ?_
 refine Zn ?_
 refine G.condDF rfl Od ?_
 refine Y8 ?_
 refine Zcp [] [0] (c_states (⟨b23,o24,cs25,none⟩) q22 n28 cap26 0 xs27 (Rd.ofGN hg29 hc30 hp31) Oa) rfl ?_
 rintro _ _ ⟨ok57,q45,b46,o47,cs48,cap49,xs50,n51,rfl,hg52,hc53,hp54,hl55,hx56,rfl⟩
 refine Ya ?_
 refine Y3 ?_
 refine Yy (y_notB rfl rfl) ?_
 refine Zn ?_
 refine G.cond rfl (fun hn7=>?_) (fun hn7=>?_)
 refine Y5 ?_
 refine Zn (G.ret ?_)
 refine GQ.addE ?_
 repeat first|refine ZR ?_|refine ZB ?_
 exact ret3 [0] rfl rfl rfl rfl rfl (AppW.no ⟨Oi,fun x hx=>by simp at hx⟩)
 have hok9:ok57=true:=by simpa using hn7
 have hTT:xs50=tableF 6 xs27:=hx56 hok9
 refine Y8 ?_
 refine Zcp [] [2,0] (c_twoStates (⟨b34,o35,cs36,none⟩) q33 n39 cap37 0 xs38 (Rd.ofGN hg40 hc41 hp42) q45 b46 o47 cs48 cap49 xs50 n51 hg52 hc53 hp54 (by first|assumption|omega) xs27 Oa Oa Oa Om Oa Om) rfl ?_
 rintro _ _ ⟨ok70,q58,b59,o60,cs61,cap62,xs63,n64,rfl,hg65,hc66,hp67,hl68,hx69,rfl⟩
 refine Ya ?_
 refine Y2 ?_
 refine Z4 (G.seq ?_)
 obtain⟨hu1,hu2⟩:=hx69
 refine YG ?_
 refine Yy (Zlen un_22) ?_
 refine Zn (G.block ?_)
 refine G.addE ?_
 refine Zo (fun mz ρ l=>∃i:Nat,∃qp:Option Addr,∃bp op:Nat,∃csp:List Value,∃capp:Nat,∃P:List Nat,∃m:Nat,mz=n64-i∧(GS qp bp op csp 1 capp)∧(m≤capp)∧(csp.take m=nats .i64 P)∧(P.length=m)∧(i≤n64∧m=i)∧(AllLe P 255)∧ρ=[(2,.slice none 0 0),(3,Vh 0),(4,.bool false),(5,Vh (xsA.getD 0 0)),(12,.bool ok70),(15,.slice qp m capp),(99,.slice q58 n64 cap62),(100,Vh n64),(101,Vh i)]∧l=[⟨bp,op,csp,none⟩,⟨b59,o60,cs61,none⟩,⟨b46,o47,cs48,none⟩,⟨b23,o24,cs25,none⟩,⟨b34,o35,cs36,none⟩]) ⟨0,none,0,0,[],0,[],0,rfl,⟨rfl,.inr ⟨rfl,rfl⟩⟩,(Nat.le_refl _),rfl,Ow,⟨Om,rfl⟩,(fun x hx=>by cases hx),rfl,rfl⟩ ?_ (hs:=rfl)
 rintro _ _ _ ⟨i,qp,bp,op,csp,capp,P,m,rfl,hgp,hcp,hpp,hlp,hi,hPa,rfl,rfl⟩
 refine Y5 ?_
 refine Yy (Zlt i n64) ?_
 refine Z4 ?_
 refine Zc (fun h71=>?_) (fun h71=>?_)
 refine Z7 (G.seq (G.block (Y5 ?_)))
 refine Yy (y_ixG (q':=o60+i) (m:=i) rfl rfl rfl se_22 Om (hg65.some' Om) Om) ?_
 refine Yr (Zlc 1 i ag_5 rfl (pre_get hp67 Ou)) ?_
 refine Zn ?_
 have hui:=hu2.at_ i
 refine YG ?_
 refine Yy (ZcvNh (xs63.getD i 0) un_5 un_3) ?_
 refine Ze (e_bs (ps:=[(0,.tmp 107)]) (pv:=[(0,Vh (xs63.getD i 0))]) (vs:=[Vh (xs63.getD i 0)]) 8 rfl ⟨rfl,rfl⟩ el_25 Od Ov rfl rfl) fun b72=>?_
 refine GL.eff (e_appN (k:=.i64) (n:=m) (m:=1) (xs:=P) (ys:=[xs63.getD i 0]) 1 rfl rfl rfl rfl el_25 rfl rfl hgp hpp (Src.ofL 0 0 rfl rfl rfl) Oq rfl rfl) rfl ?_
 rintro _ _ ⟨q73,b74,o75,cs76,cap77,hg78,hc79,ht80,rfl,rfl⟩
 refine Ya ?_
 refine GL.nil (GQ.blockN (GQ.thenN (YG ?_)))
 refine Yy (ZaddNh i 1) ?_
 refine GL.nil ?_
 refine GQ.pick [1,1,1,1,1] rfl ?_
 exact Zb ⟨(i+1),q73,b74,o75,cs76,cap77,(P++[xs63.getD i 0]),(m+1),rfl,hg78,hc79,ht80,Ow,⟨Om,Om⟩,(all_snoc hPa Om),rfl,rfl⟩
 refine G.exit (GQ.thenE (GQ.thenE (GQ.blockE (GQ.thenN (Y5 ?_)))))
 refine Yy (ZaddNh 1 (xsA.getD 0 0)) ?_
 refine Zn (G.ret ?_)
 repeat first|refine ZR ?_|refine ZB ?_
 exact ret3 [0] rfl rfl rfl rfl rfl (AppW.mk hgp hcp hpp hlp ⟨Om,hPa⟩)
theorem c_HuffLeaves (sA:Seg) (qA:Option Addr) (nA cA jA:Nat) (xsA:List Nat) (hA:Rd qA nA 1 (nats .u8 xsA) sA jA) (paA:PA qA cA) (hcA:nA≤cA) (hb:Bytes xsA) (hz:nA≤1048576) (hT:TreeAny xsA):Con Tryz.prog 8 [.slice qA nA cA] [] [sA] (fun v' l'=>∃ok,v'=.bool ok∧l'=[]):=by
 refine Zi Tryz.func8 rfl fun w0=>?_
 refine G.seq ?_
 have hlA:=hA.lenN
 refine YG ?_
 refine Y2 ?_
 refine Zcp [] [0] (c_weights sA qA nA cA jA xsA hA paA Om Oa Om Oa) rfl ?_
 rintro _ _ ⟨u1,ok2,q3,b4,o5,cs6,cap7,xs8,n9,rfl,hg10,hc11,hp12,hl13,hx14,rfl⟩
 refine Ya ?_
 refine Y3 ?_
 refine Yy (y_notB rfl rfl) ?_
 refine Zn ?_
 refine G.cond rfl (fun h15=>?_) (fun h15=>?_)
 refine Y5 ?_
 refine Zn (G.ret ?_)
 repeat first|refine ZR ?_|refine ZB ?_
 exact ret1 [] rfl rfl rfl (⟨_,rfl,rfl⟩)
 refine Z7 (G.seq ?_)
 obtain⟨hv1,hv2⟩:=hx14
 refine YG ?_
 refine Y3 ?_
 refine Yy (Zlen un_25) ?_
 refine Zn (G.block ?_)
 refine Zo (fun mz ρ l=>∃i le s:Nat,mz=n9-i∧(i≤n9∧le≤i∧s≤2048*i)∧ρ=[(2,.bool false),(6,Vh le),(7,Vh s),(18,.slice q3 n9 cap7),(19,Vh n9),(20,Vh i)]∧l=[⟨b4,o5,cs6,none⟩]) ⟨0,0,0,rfl,⟨Om,Om,Om⟩,rfl,rfl⟩ ?_
 rintro _ _ _ ⟨i,le,s,rfl,hi,rfl,rfl⟩
 refine Y5 ?_
 refine Yy (Zlt i n9) ?_
 refine Z4 ?_
 refine Zc (fun h16=>?_) (fun h16=>?_)
 refine Z7 (G.seq (G.block (Y5 ?_)))
 refine Yy (y_ixG (q':=o5+i) (m:=i) rfl rfl rfl se_25 Om (hg10.some' Om) Om) ?_
 refine Yr (Zlc 0 i ag_3 rfl (pre_get hp12 Ou)) ?_
 refine Z4 (G.seq ?_)
 have hvi:=hv2.at_ i
 refine YG ?_
 refine Yy (Zeq (xs8.getD i 0) 1) ?_
 refine Zn ?_
 refine Zc (fun h17=>?_) (fun h17=>?_)
 refine YG ?_
 refine Yy (ZaddNh le 1) ?_
 refine Y2 ?_
 refine Zy (Zgt (xs8.getD i 0) 0) ?_
 refine Za 1 ?_
 refine GL.split (t:=30) (p:=((0:Nat):Int)<((xs8.getD i 0:Nat):Int)) rfl (fun h18=>?_) (fun h18=>?_)
 refine Ya ?_
 refine Yy (Zle (xs8.getD i 0) 12) ?_
 refine Zn ?_
 refine Zc (fun h19=>?_) (fun h19=>?_)
 have hpw:=pow_le (show xs8.getD i 0-1≤11 by omega)
 refine YG ?_
 refine Yy (ZsubNh (xs8.getD i 0) 1) ?_
 refine Yy (Zq (2^(xs8.getD i 0-1)) (ZshlNh 1 ((xs8.getD i 0)-1)) (Nat.one_mul _)) ?_
 refine Yy (ZaddNh s (2^(xs8.getD i 0-1))) ?_
 refine GL.nil (GQ.blockN (GQ.thenN (YG ?_)))
 refine Yy (ZaddNh i 1) ?_
 refine GL.nil ?_
 exact Zb ⟨(i+1),(le+1),(s+(2^(xs8.getD i 0-1))),rfl,⟨Om,Om,Om⟩,rfl,rfl⟩
 refine G.skip (GQ.blockN (GQ.thenN (YG ?_)))
 refine Yy (ZaddNh i 1) ?_
 refine GL.nil ?_
 exact Zb ⟨(i+1),(le+1),s,rfl,⟨Om,Om,Om⟩,rfl,rfl⟩
 refine Ya ?_
 refine Zn (G.condF rfl (G.skip (GQ.blockN (GQ.thenN (YG ?_)))))
 refine Yy (ZaddNh i 1) ?_
 refine GL.nil ?_
 exact Zb ⟨(i+1),(le+1),s,rfl,⟨Om,Om,Om⟩,rfl,rfl⟩
 refine Y8 ?_
 refine Zy (Zgt (xs8.getD i 0) 0) ?_
 refine Za 1 ?_
 refine GL.split (t:=30) (p:=((0:Nat):Int)<((xs8.getD i 0:Nat):Int)) rfl (fun h20=>?_) (fun h20=>?_)
 refine Ya ?_
 refine Yy (Zle (xs8.getD i 0) 12) ?_
 refine Zn ?_
 refine Zc (fun h21=>?_) (fun h21=>?_)
 have hpw:=pow_le (show xs8.getD i 0-1≤11 by omega)
 refine YG ?_
 refine Yy (ZsubNh (xs8.getD i 0) 1) ?_
 refine Yy (Zq (2^(xs8.getD i 0-1)) (ZshlNh 1 ((xs8.getD i 0)-1)) (Nat.one_mul _)) ?_
 refine Yy (ZaddNh s (2^(xs8.getD i 0-1))) ?_
 refine GL.nil (GQ.blockN (GQ.thenN (YG ?_)))
 refine Yy (ZaddNh i 1) ?_
 refine GL.nil ?_
 exact Zb ⟨(i+1),le,(s+(2^(xs8.getD i 0-1))),rfl,⟨Om,Om,Om⟩,rfl,rfl⟩
 refine G.skip (GQ.blockN (GQ.thenN (YG ?_)))
 refine Yy (ZaddNh i 1) ?_
 refine GL.nil ?_
 exact Zb ⟨(i+1),le,s,rfl,⟨Om,Om,Om⟩,rfl,rfl⟩
 refine Ya ?_
 refine Zn (G.condF rfl (G.skip (GQ.blockN (GQ.thenN (YG ?_)))))
 refine Yy (ZaddNh i 1) ?_
 refine GL.nil ?_
 exact Zb ⟨(i+1),le,s,rfl,⟨Om,Om,Om⟩,rfl,rfl⟩
 refine G.exit (GQ.thenE (GQ.thenE (GQ.blockE (GQ.thenN (G.seq (G.seq ?_))))))
 have hb20:blen s≤20:=blen_le Om
 have hbl:=blen_lt s
 have hbp2:=pow_le hb20
 refine YG ?_
 refine Zy (Zgt s 0) ?_
 refine Za 1 ?_
 refine GL.split (t:=42) (p:=((0:Nat):Int)<((s:Nat):Int)) rfl (fun h22=>?_) (fun h22=>?_)
 refine Ya ?_
 refine Zcc [] [] (c_highBit s Om Om) rfl ?_
 refine Yy (Zq (blen s) (ZaddNh (blen s-1) 1) (by have hbp:=blen_pos (show 0<s by omega);omega)) ?_
 refine Yy (Zq (2^blen s) (ZshlNh 1 (blen s)) (Nat.one_mul _)) ?_
 refine Yy (ZsubNh (2^blen s) s) ?_
 refine Yy (Zeq ((2^blen s)-s) 1) ?_
 refine Zn ?_
 refine Zc (fun h23=>?_) (fun h23=>?_)
 refine YG ?_
 refine Yy (ZaddNh le 1) ?_
 refine Y2 ?_
 refine Yy (Zgt (le+1) 1) ?_
 refine Zn (G.ret ?_)
 repeat first|refine ZR ?_|refine ZB ?_
 exact ret1 [] rfl rfl rfl (⟨_,rfl,rfl⟩)
 refine Y8 ?_
 refine Yy (Zgt le 1) ?_
 refine Zn (G.ret ?_)
 repeat first|refine ZR ?_|refine ZB ?_
 exact ret1 [] rfl rfl rfl (⟨_,rfl,rfl⟩)
 refine Ya ?_
 refine Zn (G.condF rfl (Y8 ?_))
 refine Yy (Zgt le 1) ?_
 refine Zn (G.ret ?_)
 repeat first|refine ZR ?_|refine ZB ?_
 exact ret1 [] rfl rfl rfl (⟨_,rfl,rfl⟩)
end Go.Proofs.YtplgbfkpeampgaaGreatDoor
