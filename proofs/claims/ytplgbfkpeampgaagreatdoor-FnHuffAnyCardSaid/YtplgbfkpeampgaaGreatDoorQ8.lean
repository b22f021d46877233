/- Walks (printed by a program of my own). -/
import Derived.Test.YtplgbfkpeampgaaGreatDoorP3
set_option linter.unusedVariables false
set_option linter.unusedSimpArgs false
set_option maxRecDepth 100000
namespace Go.Proofs.YtplgbfkpeampgaaGreatDoor
open Go
theorem c_low (qA:Option Addr) (bA oA:Nat) (csA:List Value) (capA:Nat) (xsA:List Nat) (nA:Nat) (hgA:GS qA bA oA csA 1 capA) (hcA:nA≤capA) (hpA:csA.take nA=nats .i64 xsA) (hlA:xsA.length=nA) (v:Nat) (n:Nat) (hv:v<9223372036854775808) (hn:n<64) (hA:nA+n≤1073741824):Con Tryz.prog 97 [.slice qA nA capA,Vh v,Vh n] [⟨bA,oA,csA,none⟩] [] (App .i64 (xsA++lowB v n) (nA+n)):=by
 refine Zi Tryz.func97 rfl fun w0=>?_
 refine Y5 ?_
 refine Y3 ?_
 refine Zn (G.block ?_)
 refine Zo (fun mz ρ l=>∃i:Nat,∃q:Option Addr,∃b o:Nat,∃cs:List Value,∃cap:Nat,∃P:List Nat,∃m:Nat,mz=n-i∧(GS q b o cs 1 cap)∧(m≤cap)∧(cs.take m=nats .i64 P)∧(P.length=m)∧(i≤n∧m=nA+i)∧(P=xsA++lowB v i)∧ρ=[(0,.slice q m cap),(1,Vh v),(6,.slice none 0 0),(8,Vh n),(9,Vh i)]∧l=[⟨b,o,cs,none⟩]) ⟨0,qA,bA,oA,csA,capA,xsA,nA,rfl,hgA,hcA,hpA,Ow,Om,(by simp[lowB]),rfl,rfl⟩ ?_
 rintro _ _ _ ⟨i,q,b,o,cs,cap,P,m,rfl,hg,hc,hp,hl,hi,hP,rfl,rfl⟩
 refine Y5 ?_
 refine Yy (Zlt i n) ?_
 refine Z4 ?_
 refine Zc (fun h1=>?_) (fun h1=>?_)
 refine Z7 (G.seq (G.block (Y5 ?_)))
 refine Zn ?_
 have hd:=Nat.div_le_self v (2^i)
 refine YG ?_
 refine Yy (ZshrNh v i) ?_
 refine Yy (Zq ((v/2^i)%2) (ZandNh (v/2^i) 1) (Nat.and_one_is_mod _)) ?_
 refine Ze (e_bs (ps:=[(0,.tmp 16)]) (pv:=[(0,Vh ((v/2^i)%2))]) (vs:=[Vh ((v/2^i)%2)]) 8 rfl ⟨rfl,rfl⟩ el_25 Od Ov rfl rfl) fun b2=>?_
 refine GL.eff (e_appN (k:=.i64) (n:=m) (m:=1) (xs:=P) (ys:=[(v/2^i)%2]) 1 rfl rfl rfl rfl el_25 rfl rfl hg hp (Src.ofL 0 0 rfl rfl rfl) Oq rfl rfl) rfl ?_
 rintro _ _ ⟨q3,b4,o5,cs6,cap7,hg8,hc9,ht10,rfl,rfl⟩
 refine Ya ?_
 refine GL.nil (GQ.blockN (GQ.thenN (YG ?_)))
 refine Yy (ZaddNh i 1) ?_
 refine GL.nil ?_
 refine GQ.pick [1] rfl ?_
 exact Zb ⟨(i+1),q3,b4,o5,cs6,cap7,(P++[(v/2^i)%2]),(m+1),rfl,hg8,hc9,ht10,Ow,Om,(by rw[hP,lowB_succ,List.append_assoc]),rfl,rfl⟩
 refine G.exit (GQ.thenE (GQ.thenE (GQ.blockE (GQ.thenN (Y5 ?_)))))
 refine Zn (G.ret ?_)
 repeat first|refine ZR ?_|refine ZB ?_
 exact ret1 [0] rfl rfl rfl (by have e:i=n:=Om;subst e;exact App.mk hg hc hp hl hi.2 hP)
theorem c_number (qA:Option Addr) (bA oA:Nat) (csA:List Value) (capA:Nat) (xsA:List Nat) (nA:Nat) (hgA:GS qA bA oA csA 1 capA) (hcA:nA≤capA) (hpA:csA.take nA=nats .i64 xsA) (hlA:xsA.length=nA) (v:Nat) (n:Nat) (hv:v<9223372036854775808) (hn:n<64) (hA:nA+n≤1073741824):Con Tryz.prog 72 [.slice qA nA capA,Vh v,Vh n] [⟨bA,oA,csA,none⟩] [] (App .i64 (xsA++highB v n) (nA+n)):=by
 refine Zi Tryz.func72 rfl fun w0=>?_
 refine Y5 ?_
 refine Y3 ?_
 refine Zy (subI_i64 (a:=((n:Nat):Int)) (b:=((1:Nat):Int)) rfl rfl rfl Om) ?_
 refine Yy (y_congr (y_as rfl rfl) (int_eq (show((n:Nat):Int)-((1:Nat):Int)=((n:Nat):Int)-1-((0:Nat):Int) from by omega))) ?_
 refine Zn (G.block ?_)
 refine Zo (fun mz ρ l=>∃j:Nat,∃q:Option Addr,∃b o:Nat,∃cs:List Value,∃cap:Nat,∃P:List Nat,∃m:Nat,mz=n-j∧(GS q b o cs 1 cap)∧(m≤cap)∧(cs.take m=nats .i64 P)∧(P.length=m)∧(j≤n∧m=nA+j)∧(P=xsA++highT v n j)∧ρ=[(0,.slice q m cap),(1,Vh v),(6,.slice none 0 0),(7,.int .i64 (((n:Nat):Int)-1-((j:Nat):Int)))]∧l=[⟨b,o,cs,none⟩]) ⟨0,qA,bA,oA,csA,capA,xsA,nA,rfl,hgA,hcA,hpA,Ow,Om,(by simp[highT]),rfl,rfl⟩ ?_
 rintro _ _ _ ⟨j,q,b,o,cs,cap,P,m,rfl,hg,hc,hp,hl,hj,hP,rfl,rfl⟩
 refine Y6 ?_
 refine Yy (y_ge (a:=(((n:Nat):Int)-1-((j:Nat):Int))) (b:=((0:Nat):Int)) rfl rfl rfl) ?_
 refine Zn ?_
 refine Zc (fun h1=>?_) (fun h1=>?_)
 refine Z7 (G.seq (G.block ?_))
 have hd:=Nat.div_le_self v (2^(n-1-j))
 refine G.region (Za 2 ?_)
 refine Yy (y_congr (y_mv rfl rfl) (int_eq (show((n:Nat):Int)-1-((j:Nat):Int)=((n-1-j:Nat):Int) from by omega))) ?_
 refine Yy (ZshrNh v (n-1-j)) ?_
 refine Yy (Zq ((v/2^(n-1-j))%2) (ZandNh (v/2^(n-1-j)) 1) (Nat.and_one_is_mod _)) ?_
 refine Ze (e_bs (ps:=[(0,.tmp 18)]) (pv:=[(0,Vh ((v/2^(n-1-j))%2))]) (vs:=[Vh ((v/2^(n-1-j))%2)]) 8 rfl ⟨rfl,rfl⟩ el_25 Od Ov rfl rfl) fun b2=>?_
 refine GL.eff (e_appN (k:=.i64) (n:=m) (m:=1) (xs:=P) (ys:=[(v/2^(n-1-j))%2]) 1 rfl rfl rfl rfl el_25 rfl rfl hg hp (Src.ofL 0 0 rfl rfl rfl) Oq rfl rfl) rfl ?_
 rintro _ _ ⟨q3,b4,o5,cs6,cap7,hg8,hc9,ht10,rfl,rfl⟩
 refine Ya ?_
 refine GL.nil (GQ.blockN (GQ.thenN (YG ?_)))
 refine Zy (subI_i64 (a:=((n:Nat):Int)-1-((j:Nat):Int)) (b:=((1:Nat):Int)) rfl rfl rfl Om) ?_
 refine Yy (y_congr (y_as rfl rfl) (int_eq (show(((n:Nat):Int)-1-((j:Nat):Int))-((1:Nat):Int)=((n:Nat):Int)-1-((j+1:Nat):Int) from by omega))) ?_
 refine GL.nil ?_
 refine GQ.pick [1] rfl ?_
 exact Zb ⟨(j+1),q3,b4,o5,cs6,cap7,(P++[(v/2^(n-1-j))%2]),(m+1),rfl,hg8,hc9,ht10,Ow,Om,(by rw[hP,highT_succ,List.append_assoc]),rfl,rfl⟩
 refine G.exit (GQ.thenE (GQ.thenE (GQ.blockE (GQ.thenN (Y5 ?_)))))
 refine Zn (G.ret ?_)
 repeat first|refine ZR ?_|refine ZB ?_
 exact ret1 [0] rfl rfl rfl (by have e:j=n:=Om;subst e;exact App.mk hg hc hp hl hj.2 hP)
theorem c_highBit (v:Nat) (h1:0<v) (hv:v<9223372036854775808):Con Tryz.prog 16 [Vh v] [] [] (fun v' l'=>v'=Vh (blen v-1)∧l'=[]):=by
 refine Zi Tryz.func16 rfl fun w0=>?_
 refine Y5 ?_
 refine Y2 ?_
 refine Z4 (G.block ?_)
 refine Zo (fun mz ρ l=>∃x k:Nat,mz=2*x∧(0<x∧x≤v∧k+blen x=blen v∧blen v≤64)∧ρ=[(0,Vh x),(2,Vh 0),(3,Vh k)]∧l=[]) ⟨v,0,rfl,⟨h1,Nat.le_refl _,Nat.zero_add _,blen_le Om⟩,rfl,rfl⟩ ?_ (hs:=rfl)
 rintro _ _ _ ⟨x,k,rfl,hx,rfl,rfl⟩
 refine Y6 ?_
 refine Yy (Zgt x 1) ?_
 refine Zn ?_
 refine Zc (fun h1=>?_) (fun h1=>?_)
 refine Z7 (G.block (Y5 ?_))
 refine Yy (ZquoNh x 2) ?_
 refine Zn ?_
 have hb1:=blen_pos hx.1
 refine YG ?_
 refine Yy (ZaddNh k 1) ?_
 refine GL.nil (GQ.blockN ?_)
 exact Zb ⟨(x/2),(k+1),rfl,⟨Om,Om,by have:=blen_div x 1 Om;rw[Nat.pow_one] at this;omega,hx.2.2.2⟩,rfl,rfl⟩
 refine G.exit (GQ.thenE (GQ.thenE (GQ.blockE (GQ.thenN (Y5 ?_)))))
 refine Zn (G.ret ?_)
 repeat first|refine ZR ?_|refine ZB ?_
 exact ret1 [] rfl rfl rfl (⟨int_eq (by have e:x=1:=Om;subst e;have e1:blen 1=1:=Od;omega),rfl⟩)
theorem c_eq (sA:Seg) (qA:Option Addr) (nA cA jA:Nat) (xsA:List Nat) (hA:Rd qA nA 1 (nats .u8 xsA) sA jA) (sB:Seg) (qB:Option Addr) (nB cB jB:Nat) (xsB:List Nat) (hB:Rd qB nB 1 (nats .u8 xsB) sB jB) (hz:nA≤1152921504606846976):Con Tryz.prog 13 [.slice qA nA cA,.slice qB nB cB] [] [sA,sB] (fun v' l'=>v'=.bool (decide (xsA=xsB))∧l'=[]):=by
 refine Zi Tryz.func13 rfl fun w0=>?_
 refine G.seq ?_
 have hlA:=hA.lenN
 have hlB:=hB.lenN
 refine YG ?_
 refine Y3 ?_
 refine Yy (Zlen un_22) ?_
 refine Yy (Zlen un_22) ?_
 refine Yy (Zne nA nB) ?_
 refine Zn ?_
 refine Zc (fun hn0=>?_) (fun hn0=>?_)
 refine Y5 ?_
 refine Zn (G.ret ?_)
 repeat first|refine ZR ?_|refine ZB ?_
 exact ret1 [] rfl rfl rfl (⟨congrArg Value.bool (decide_eq_false (fun e=>hn0 (by rw[←hlA, ←hlB,e]))).symm,rfl⟩)
 refine Z7 (Y6 ?_)
 refine Yy (Zlen un_22) ?_
 refine Zn (G.block ?_)
 refine Zo (fun mz ρ l=>∃i:Nat,mz=nA-i∧(i≤nA∧xsA.take i=xsB.take i)∧ρ=[(0,.slice qA nA cA),(1,.slice qB nB cB),(12,Vh nA),(13,Vh i)]∧l=[]) ⟨0,rfl,⟨Om,rfl⟩,rfl,rfl⟩ ?_
 rintro _ _ _ ⟨i,rfl,hi,rfl,rfl⟩
 refine Y5 ?_
 refine Yy (Zlt i nA) ?_
 refine Z4 ?_
 refine Zc (fun h1=>?_) (fun h1=>?_)
 refine Z7 (G.seq (G.block (Y5 ?_)))
 refine Z4 ?_
 refine Zg 0 [y_0,y_1,y_2,r_3,y_4,y_5,y_6,r_7,y_8] ?_
 refine Ypa ?_
 refine Ypy (y_ixG (q':=sA.o+(jA+i)) (m:=i) rfl rfl rfl se_22 Om (hA.ad Om) Om) ?_
 refine Ypr (Zkc 0 (jA+i) ag_5 rfl (hA.getN Om)) ?_
 refine Ypy (y_ixG (q':=sB.o+(jB+i)) (m:=i) rfl rfl rfl se_22 Om (hB.ad Om) Om) ?_
 refine Ypr (Zkc 1 (jB+i) ag_5 rfl (hB.getN Om)) ?_
 refine Ypy (Zne (xsA.getD i 0) (xsB.getD i 0)) ?_
 refine GP.nil (GQ.thenN ?_)
 refine Zc (fun hn2=>?_) (fun hn2=>?_)
 refine Y5 ?_
 refine Zn (G.ret ?_)
 repeat first|refine ZR ?_|refine ZB ?_
 exact ret1 [] rfl rfl rfl (⟨congrArg Value.bool (decide_eq_false (fun e=>hn2 (by rw[e]))).symm,rfl⟩)
 refine G.skip (GQ.blockN (GQ.thenN (YG ?_)))
 refine Yy (ZaddNh i 1) ?_
 refine GL.nil ?_
 exact Zb ⟨(i+1),rfl,⟨Om,eq_step hi.2 Om Om Om⟩,rfl,rfl⟩
 refine G.exit (GQ.thenE (GQ.thenE (GQ.blockE (GQ.thenN (Y5 ?_)))))
 refine Zn (G.ret ?_)
 repeat first|refine ZR ?_|refine ZB ?_
 exact ret1 [] rfl rfl rfl (⟨congrArg Value.bool (decide_eq_true (eq_done hi.2 Om Om)).symm,rfl⟩)
theorem c_bitAt (sA:Seg) (qA:Option Addr) (nA cA jA:Nat) (xsA:List Nat) (hA:Rd qA nA 1 (nats .u8 xsA) sA jA) (p:Nat) (hb:Bytes xsA) (hp:p<9223372036854775808) (hz:nA≤1152921504606846976):Con Tryz.prog 74 [.slice qA nA cA,Vh p] [] [sA] (fun v' l'=>v'=.tuple #[Vh (bitN xsA p),.bool (decide (p/8<nA))]∧l'=[]):=by
 refine Zi Tryz.func74 rfl fun w0=>?_
 refine G.seq ?_
 have hlA:=hA.lenN
 refine YG ?_
 refine Y3 ?_
 refine Zy (Zlt p 0) ?_
 refine Za 1 ?_
 refine GL.knowF (t:=8) (p:=((p:Nat):Int)<((0:Nat):Int)) rfl Om ?_
 refine Ya ?_
 refine Yy (ZquoNh p 8) ?_
 refine Yy (Zlen un_22) ?_
 refine Yy (Zge (p/8) nA) ?_
 refine Zn ?_
 refine Zc (fun h1=>?_) (fun h1=>?_)
 refine Y5 ?_
 refine Zn (G.ret ?_)
 repeat first|refine ZR ?_|refine ZB ?_
 exact ret2 [] rfl rfl rfl rfl (⟨by rw[bitN_out Om,decide_eq_false Om];rfl,rfl⟩)
 refine Z7 (G.seq ?_)
 have hx:=hb.at_ (p/8)
 have hd:=Nat.div_le_self (xsA.getD (p/8) 0) (2^(p%8))
 refine YG ?_
 refine Yy (ZquoNh p 8) ?_
 refine Yy (y_ixG (q':=sA.o+(jA+(p/8))) (m:=p/8) rfl rfl rfl se_22 Om (hA.ad Om) Om) ?_
 refine Yr (Zkc 0 (jA+(p/8)) ag_5 rfl (hA.getN Om)) ?_
 refine Yy (ZremNh p 8) ?_
 refine Yy (ZshrNa (xsA.getD (p/8) 0) (p%8)) ?_
 refine Yy (ZcvNh ((xsA.getD (p/8) 0)/2^(p%8)) un_5 un_3) ?_
 refine Yy (Zq (((xsA.getD (p/8) 0)/2^(p%8))%2) (ZandNh ((xsA.getD (p/8) 0)/2^(p%8)) 1) (Nat.and_one_is_mod _)) ?_
 refine Zn (G.ret ?_)
 repeat first|refine ZR ?_|refine ZB ?_
 exact ret2 [] rfl rfl rfl rfl (⟨by rw[decide_eq_true (show p/8<nA by omega)];rfl,rfl⟩)
theorem c_bitsAt (sA:Seg) (qA:Option Addr) (nA cA jA:Nat) (xsA:List Nat) (hA:Rd qA nA 1 (nats .u8 xsA) sA jA) (p:Nat) (n:Nat) (hb:Bytes xsA) (hn:n≤32) (hp:p+n<9223372036854775808) (hz:nA≤1152921504606846976):Con Tryz.prog 53 [.slice qA nA cA,Vh p,Vh n] [] [sA] (fun v' l'=>v'=.tuple #[Vh (bitsN xsA p n),.bool (allN nA p n)]∧l'=[]):=by
 refine Zi Tryz.func53 rfl fun w0=>?_
 refine G.seq ?_
 have hlA:=hA.lenN
 refine YG ?_
 refine Y2 ?_
 refine Y3 ?_
 refine Zn (G.block ?_)
 refine Zo (fun mz ρ l=>∃i:Nat,∃a:Bool,mz=n-i∧(i≤n)∧(a=allN nA p i)∧ρ=[(0,.slice qA nA cA),(1,Vh p),(2,Vh n),(6,Vh 0),(7,.bool false),(8,Vh (bitsN xsA p i)),(9,.bool a),(10,Vh i)]∧l=[]) ⟨0,true,rfl,Om,rfl,rfl,rfl⟩ ?_
 rintro _ _ _ ⟨i,a,rfl,hi,ha,rfl,rfl⟩
 refine Y6 ?_
 refine Yy (Zlt i n) ?_
 refine Zn ?_
 refine Zc (fun h1=>?_) (fun h1=>?_)
 refine Z7 (G.seq (G.block (Y5 ?_)))
 refine Yy (ZaddNh p i) ?_
 refine Zcc [] [0] (c_bitAt sA qA nA cA jA xsA hA (p+i) Oa Om Om) rfl ?_
 refine Ya ?_
 refine Z4 ?_
 have hb1:=bitN_lt xsA (p+i)
 have hs1:=bitsN_lt xsA p i
 have h32:=pow_le (show i≤32 by omega)
 have hm1:bitN xsA (p+i)*2^i≤1*2^i:=Nat.mul_le_mul_right _ Om
 refine YG ?_
 refine Yy (ZshlNh (bitN xsA (p+i)) i) ?_
 refine Yy (ZaddNh (bitsN xsA p i) ((bitN xsA (p+i))*2^i)) ?_
 refine Z1 (Za 2 ?_)
 refine GL.splitB (t:=32) (b:=a) rfl (fun h2=>?_) (fun h2=>?_)
 refine Ya ?_
 refine GL.nil (GQ.blockN (GQ.thenN (YG ?_)))
 refine Yy (ZaddNh i 1) ?_
 refine GL.nil ?_
 exact Zb ⟨(i+1),(decide ((p+i)/8<nA)),rfl,Om,(by simp_all [allN]),rfl,rfl⟩
 refine Ya ?_
 refine GL.nil (GQ.blockN (GQ.thenN (YG ?_)))
 refine Yy (ZaddNh i 1) ?_
 refine GL.nil ?_
 exact Zb ⟨(i+1),false,rfl,Om,(by simp_all [allN]),rfl,rfl⟩
 refine G.exit (GQ.thenE (GQ.thenE (GQ.blockE (GQ.thenN (Y5 ?_)))))
 refine Zn (G.ret ?_)
 repeat first|refine ZR ?_|refine ZB ?_
 exact ret2 [] rfl rfl rfl rfl (⟨by have e:i=n:=Om;subst e;rw[←ha],rfl⟩)
theorem c_copied (sA:Seg) (qA:Option Addr) (nA cA jA:Nat) (xsA:List Nat) (hA:Rd qA nA 1 (nats .u8 xsA) sA jA) (hz:nA≤1073741824):Con Tryz.prog 25 [.slice qA nA cA] [] [sA] (AppX .u8 (fun ys=>ys=xsA)):=by
 refine Zi Tryz.func25 rfl fun w0=>?_
 refine G.seq ?_
 have hlA:=hA.lenN
 refine YG ?_
 refine Y2 ?_
 refine Ze (e_bs (ps:=[]) (pv:=[]) (vs:=[]) 1 rfl ⟨rfl,rfl⟩ el_22 Od Ov rfl rfl) fun b1=>?_
 refine Ya ?_
 refine GL.eff (e_appN (k:=.u8) (n:=0) (m:=nA) (xs:=[]) (ys:=xsA) 0 rfl rfl rfl rfl el_22 rfl rfl ⟨Oi,.inl rfl⟩ rfl (Src.ofRd 1 rfl hA) Oq rfl rfl) rfl ?_
 rintro _ _ ⟨q2,b3,o4,cs5,cap6,hg7,hc8,ht9,rfl,rfl⟩
 refine Ya ?_
 refine Zn (G.ret ?_)
 repeat first|refine ZR ?_|refine ZB ?_
 exact ret1 [0] rfl rfl rfl (AppX.mk hg7 hc8 ht9 (by first|assumption|rfl|(simp;omega)|simp_all) Oi)
theorem c_packed (sA:Seg) (qA:Option Addr) (nA cA jA:Nat) (xsA:List Nat) (hA:Rd qA nA 1 (nats .i64 xsA) sA jA) (hb:Bits xsA) (hz:nA≤1073741824):Con Tryz.prog 20 [.slice qA nA cA] [] [sA] (AppX .u8 (fun ys=>Bytes ys∧ys.length=nA/8+1∧tailV ys 0 (nA/8+1)=2^nA+bitsV xsA)):=by
 refine Zi Tryz.func20 rfl fun w0=>?_
 refine G.seq ?_
 have hlA:=hA.lenN
 refine YG ?_
 refine Y2 ?_
 refine Yy (Zlen un_25) ?_
 refine Y2 ?_
 refine Yy (ZquoNh nA 8) ?_
 refine Yy (ZaddNh (nA/8) 1) ?_
 refine Ze (e_mkN (m:=(nA/8)+1) (c:=(nA/8)+1) rfl rfl rfl el_22 (by first|omega|decide) rfl rfl) fun b1=>?_
 refine Ya ?_
 refine Z4 ?_
 have hsm:=shl8 (nA%8) Om
 have hr0:=getD_rep0 (nA/8+1) (nA/8)
 refine Zg 1024 [y_0,y_1,y_2,y_3,r_4,y_5,y_6,y_7,y_8,y_9,e_10] ?_
 refine Ypa ?_
 refine Ypy (ZquoNh nA 8) ?_
 refine Ypy (Zx (nA/8) (nA/8) se_22) ?_
 refine Ypr (r_ld 0 (nA/8) rfl rfl rfl ag_5 (Nat.zero_add _).symm (nats_get Oy)) ?_
 refine Ypy (ZremNh nA 8) ?_
 refine Ypy (ZshlWa 1 (nA%8)) ?_
 refine Ypy (Zq (2^(nA%8)) (ZorNa ((List.replicate ((nA/8)+1) 0).getD (nA/8) 0) (1*2^(nA%8)%256)) (or_first _ _ hsm)) ?_
 refine Ypy (Zx (nA/8) (nA/8) se_22) ?_
 refine Yps (Zsu 0 (nA/8) sz_5) ?_
 refine GP.nil (GQ.thenN (Y6 ?_))
 refine Yy (Zlen un_25) ?_
 refine Zn (G.block ?_)
 refine Zo (fun mz ρ l=>∃i:Nat,∃ys:List Nat,mz=nA-i∧(i≤nA)∧(Bytes ys)∧(ys.length=nA/8+1)∧(tailV ys 0 (nA/8+1)=2^nA+bitsV (xsA.take i)*2^(nA-i))∧ρ=[(2,.slice none 0 0),(3,Vh nA),(4,Vs b1 0 ((nA/8)+1) ((nA/8)+1)),(24,.slice qA nA cA),(25,Vh nA),(26,Vh i)]∧l=[⟨b1,0,(nats .u8 ys),none⟩]) ⟨0,((List.replicate ((nA/8)+1) 0).set (nA/8) (2^(nA%8))),rfl,Om,packed0_bytes Om,Oi,packed0 nA _,rfl,rfl⟩ ?_ (hs:=rfl)
 rintro _ _ _ ⟨i,ys,rfl,hi,hB,hL,hV,rfl,rfl⟩
 refine Y5 ?_
 refine Yy (Zlt i nA) ?_
 refine Z4 ?_
 refine Zc (fun h2=>?_) (fun h2=>?_)
 refine Z7 (G.seq (G.block (Y5 ?_)))
 refine Yy (y_ixG (q':=sA.o+(jA+i)) (m:=i) rfl rfl rfl se_25 Om (hA.ad Om) Om) ?_
 refine Yr (Zkc 0 (jA+i) ag_3 rfl (hA.getN Om)) ?_
 refine Y2 ?_
 refine Yy (ZsubNh nA 1) ?_
 refine Yy (ZsubNh (nA-1) i) ?_
 refine Zn ?_
 have hx:=hb.at_ i
 have hS:=packed_step hb hlA hB hL Om hV
 have hsm:=shl8 ((nA-1-i)%8) Om
 have hm1:xsA.getD i 0*2^((nA-1-i)%8)≤1*2^((nA-1-i)%8):=Nat.mul_le_mul_right _ Om
 have hy:=hB.at_ ((nA-1-i)/8)
 have hS3:=hS.2.2
 refine Zg 4096 [y_0,y_1,y_2,y_3,r_4,y_5,y_6,y_7,y_8,y_9,y_10,y_11,e_12] ?_
 refine Ypa ?_
 refine Ypy (ZquoNh ((nA-1)-i) 8) ?_
 refine Ypy (Zx (((nA-1)-i)/8) (((nA-1)-i)/8) se_22) ?_
 refine Ypr (r_ld 0 (((nA-1)-i)/8) rfl rfl rfl ag_5 (Nat.zero_add _).symm (nats_get Oy)) ?_
 refine Ypy (ZremNh ((nA-1)-i) 8) ?_
 refine Ypy (ZshlNh (xsA.getD i 0) (((nA-1)-i)%8)) ?_
 refine Ypy (ZcvNa ((xsA.getD i 0)*2^(((nA-1)-i)%8)) un_3 un_5) ?_
 refine Ypy (ZorNa (ys.getD (((nA-1)-i)/8) 0) ((xsA.getD i 0)*2^(((nA-1)-i)%8))) ?_
 refine Ypy (Zx (((nA-1)-i)/8) (((nA-1)-i)/8) se_22) ?_
 refine Yps (Zsu 0 (((nA-1)-i)/8) sz_5) ?_
 refine GP.nil (GQ.blockN (GQ.thenN (YG ?_)))
 refine Yy (ZaddNh i 1) ?_
 refine GL.nil ?_
 exact Zb ⟨(i+1),(ys.set (((nA-1)-i)/8) ((ys.getD (((nA-1)-i)/8) 0)|||((xsA.getD i 0)*2^(((nA-1)-i)%8)))),rfl,Om,hS.2.1,(by rw[List.length_set];exact hL),hS.1,rfl,rfl⟩
 refine G.exit (GQ.thenE (GQ.thenE (GQ.blockE (GQ.thenN (Y5 ?_)))))
 refine Zn (G.ret ?_)
 repeat first|refine ZR ?_|refine ZB ?_
 exact ret1 [0] rfl rfl rfl (AppX.whole (by first|assumption|(simp;omega)) (⟨hB,hL,by have e:i=nA:=Om;subst e;rw[hV,Nat.sub_self,Nat.pow_zero,Nat.mul_one,List.take_of_length_le Om]⟩))
theorem c_Shares (sA:Seg) (qA:Option Addr) (nA cA jA:Nat) (xsA:List Nat) (hA:Rd qA nA 1 (nats .i64 xsA) sA jA)  (hz:nA≤256) (ha:AllLe xsA 64):Con Tryz.prog 96 [.slice qA nA cA,Vh 6] [] [sA] (fun v' l'=>v'=.bool (decide (xsA.sum=64∧1<nzc xsA))∧l'=[]):=by
 refine Zi Tryz.func96 rfl fun w0=>?_
 refine G.seq ?_
 have hlA:=hA.lenN
 refine YG ?_
 refine Y3 ?_
 refine Zy (Zlt 6 5) ?_
 refine Za 1 ?_
 refine GL.knowF (t:=11) (p:=((6:Nat):Int)<((5:Nat):Int)) rfl Om ?_
 refine Ya ?_
 refine Zy (Zgt 6 15) ?_
 refine Za 2 ?_
 refine GL.knowF (t:=15) (p:=((15:Nat):Int)<((6:Nat):Int)) rfl Om ?_
 refine Ya ?_
 refine Yy (Zlen un_25) ?_
 refine Yy (Zgt nA 256) ?_
 refine Zn ?_
 refine Zc (fun h1=>?_) (fun h1=>?_)
 exfalso;omega
 refine Y8 ?_
 refine Y3 ?_
 refine Yy (Zlen un_25) ?_
 refine Zn (G.block ?_)
 refine Zo (fun mz ρ l=>∃i s c:Nat,mz=nA-i∧(i≤nA)∧(s=(xsA.take i).sum∧s≤64*i)∧(c=nzc (xsA.take i)∧c≤i)∧ρ=[(1,Vh 6),(5,Vh s),(6,Vh c),(20,.slice qA nA cA),(21,Vh nA),(22,Vh i)]∧l=[]) ⟨0,0,0,rfl,Om,⟨Oi,Om⟩,⟨by simp[nzc],Om⟩,rfl,rfl⟩ ?_
 rintro _ _ _ ⟨i,s,c,rfl,hi,hs,hc,rfl,rfl⟩
 refine Y5 ?_
 refine Yy (Zlt i nA) ?_
 refine Z4 ?_
 refine Zc (fun h2=>?_) (fun h2=>?_)
 refine Z7 (G.seq (G.block (G.seq ?_)))
 have hx:=ha.at_ i
 have hs1:=sumT (xs:=xsA) (i:=i) Om
 refine YG ?_
 refine Yy (y_ixG (q':=sA.o+(jA+i)) (m:=i) rfl rfl rfl se_25 Om (hA.ad Om) Om) ?_
 refine Yr (Zkc 0 (jA+i) ag_3 rfl (hA.getN Om)) ?_
 refine Y3 ?_
 refine Zy (y_lt (a:=((xsA.getD i 0:Nat):Int)) (b:=(-1)) rfl rfl rfl) ?_
 refine Za 1 ?_
 refine GL.knowF (t:=28) (p:=((xsA.getD i 0:Nat):Int)<(-1)) rfl Om ?_
 refine Ya ?_
 refine Yy (Zgt (xsA.getD i 0) 32768) ?_
 refine Zn ?_
 refine Zc (fun h3=>?_) (fun h3=>?_)
 exfalso;omega
 refine Z7 (Y6 ?_)
 refine Yy (Zne (xsA.getD i 0) 0) ?_
 refine Zn ?_
 refine Zc (fun hnz=>?_) (fun hnz=>?_)
 have hc1:=nzcT1 (xs:=xsA) (i:=i) Om Om
 refine YG ?_
 refine Yy (ZaddNh c 1) ?_
 refine Y1 ?_
 refine Yy (y_neg_i64 rfl rfl Om) ?_
 refine Yy (y_congr (y_max (X:=((xsA.getD i 0:Nat):Int)) (Y:=(-((xsA.getD i 0:Nat)))) rfl rfl rfl) (int_eq (show max ((xsA.getD i 0:Nat):Int) (-((xsA.getD i 0:Nat)))=((xsA.getD i 0:Nat):Int) from by omega))) ?_
 refine Yy (ZaddNh s (xsA.getD i 0)) ?_
 refine GL.nil (GQ.blockN (GQ.thenN (YG ?_)))
 refine Yy (ZaddNh i 1) ?_
 refine GL.nil ?_
 exact Zb ⟨(i+1),(s+(xsA.getD i 0)),(c+1),rfl,Om,⟨Om,Om⟩,⟨Om,Om⟩,rfl,rfl⟩
 have hc1:=nzcT0 (xs:=xsA) (i:=i) Om Om
 refine Z7 (YG ?_)
 refine Yy (y_neg_i64 rfl rfl Om) ?_
 refine Yy (y_congr (y_max (X:=((xsA.getD i 0:Nat):Int)) (Y:=(-((xsA.getD i 0:Nat)))) rfl rfl rfl) (int_eq (show max ((xsA.getD i 0:Nat):Int) (-((xsA.getD i 0:Nat)))=((xsA.getD i 0:Nat):Int) from by omega))) ?_
 refine Yy (ZaddNh s (xsA.getD i 0)) ?_
 refine GL.nil (GQ.blockN (GQ.thenN (YG ?_)))
 refine Yy (ZaddNh i 1) ?_
 refine GL.nil ?_
 exact Zb ⟨(i+1),(s+(xsA.getD i 0)),c,rfl,Om,⟨Om,Om⟩,⟨Om,Om⟩,rfl,rfl⟩
 refine G.exit (GQ.thenE (GQ.thenE (GQ.blockE (GQ.thenN (Y5 ?_)))))
 refine Yy (Zq 64 (ZshlNh 1 6) Od) ?_
 refine Zy (Zeq s 64) ?_
 refine Za 1 ?_
 refine GL.split (t:=47) (p:=((s:Nat):Int)=((64:Nat):Int)) rfl (fun h4=>?_) (fun h4=>?_)
 refine Ya ?_
 refine Yy (Zgt c 1) ?_
 refine Zn (G.ret ?_)
 repeat first|refine ZR ?_|refine ZB ?_
 exact ret1 [] rfl rfl rfl (⟨congrArg Value.bool (decide_eq_decide.2 (by have e:i=nA:=Om;subst e;rw[List.take_of_length_le Om] at hs hc;omega)),rfl⟩)
 refine Ya ?_
 refine Zn (G.ret ?_)
 repeat first|refine ZR ?_|refine ZB ?_
 exact ret1 [] rfl rfl rfl (⟨congrArg Value.bool (decide_eq_false (by have e:i=nA:=Om;subst e;rw[List.take_of_length_le Om] at hs hc;omega)).symm,rfl⟩)
theorem c_Whole (sA:Seg) (qA:Option Addr) (nA cA jA:Nat) (xsA:List Nat) (hA:Rd qA nA 1 (nats .i64 xsA) sA jA) (hz:nA≤1152921504606846976):Con Tryz.prog 6 [.slice qA nA cA] [] [sA] (fun v' l'=>v'=.bool (decide (WholeL xsA))∧l'=[]):=by
 refine Zi Tryz.func6 rfl fun w0=>?_
 refine G.seq ?_
 have hlA:=hA.lenN
 refine YG ?_
 refine Y2 ?_
 refine Y3 ?_
 refine Yy (Zlen un_25) ?_
 refine Yy (Zgt nA 256) ?_
 refine Zn ?_
 refine Zc (fun h1=>?_) (fun h1=>?_)
 refine Y5 ?_
 refine Zn (G.ret ?_)
 repeat first|refine ZR ?_|refine ZB ?_
 exact ret1 [] rfl rfl rfl (⟨congrArg Value.bool (decide_eq_false (fun h=>by have:=h.1;omega)).symm,rfl⟩)
 refine Z7 (Y6 ?_)
 refine Yy (Zlen un_25) ?_
 refine Zn (G.block ?_)
 refine Zo (fun mz ρ l=>∃i s c:Nat,mz=nA-i∧(i≤nA)∧(s=kraft (xsA.take i)∧s≤2048*i)∧(c=nzc (xsA.take i)∧c≤i)∧(AllLe (xsA.take i) 11)∧ρ=[(3,Vh s),(4,Vh c),(10,.slice qA nA cA),(11,Vh nA),(12,Vh i)]∧l=[]) ⟨0,0,0,rfl,Om,⟨by simp[kraft],Om⟩,⟨by simp[nzc],Om⟩,(by simp[AllLe]),rfl,rfl⟩ ?_
 rintro _ _ _ ⟨i,s,c,rfl,hi,hs,hc,ha,rfl,rfl⟩
 refine Y5 ?_
 refine Yy (Zlt i nA) ?_
 refine Z4 ?_
 refine Zc (fun h2=>?_) (fun h2=>?_)
 refine Z7 (G.seq (G.block (Y5 ?_)))
 refine Yy (y_ixG (q':=sA.o+(jA+i)) (m:=i) rfl rfl rfl se_25 Om (hA.ad Om) Om) ?_
 refine Yr (Zkc 0 (jA+i) ag_3 rfl (hA.getN Om)) ?_
 refine Y3 ?_
 refine Zy (Zlt (xsA.getD i 0) 0) ?_
 refine Za 1 ?_
 refine GL.knowF (t:=18) (p:=((xsA.getD i 0:Nat):Int)<((0:Nat):Int)) rfl Om ?_
 refine Ya ?_
 refine Yy (Zgt (xsA.getD i 0) 11) ?_
 refine Zn ?_
 refine Zc (fun h11=>?_) (fun h11=>?_)
 refine Y5 ?_
 refine Zn (G.ret ?_)
 repeat first|refine ZR ?_|refine ZB ?_
 exact ret1 [] rfl rfl rfl (⟨congrArg Value.bool (decide_eq_false (fun h=>by have:=h.2.1.at_ i;omega)).symm,rfl⟩)
 have hp:=pow_le (show 11-xsA.getD i 0≤11 by omega)
 refine Y8 ?_
 refine Yy (Zgt (xsA.getD i 0) 0) ?_
 refine Zn ?_
 refine Zc (fun hnz=>?_) (fun hnz=>?_)
 have hc1:=nzcT1 (xs:=xsA) (i:=i) Om Om
 have hk1:=kraftT1 (xs:=xsA) (i:=i) Om Om
 refine Y5 ?_
 refine Yy (ZsubNh 11 (xsA.getD i 0)) ?_
 refine Yy (Zq (2^(11-xsA.getD i 0)) (ZshlNh 1 (11-(xsA.getD i 0))) (Nat.one_mul _)) ?_
 refine Yy (ZaddNh s (2^(11-xsA.getD i 0))) ?_
 refine Y1 ?_
 refine Yy (ZaddNh c 1) ?_
 refine GL.nil (GQ.blockN (GQ.thenN (YG ?_)))
 refine Yy (ZaddNh i 1) ?_
 refine GL.nil ?_
 exact Zb ⟨(i+1),(s+(2^(11-xsA.getD i 0))),(c+1),rfl,Om,⟨Om,Om⟩,⟨Om,Om⟩,ha.step Om Om,rfl,rfl⟩
 have hc1:=nzcT0 (xs:=xsA) (i:=i) Om Om
 have hk1:=kraftT0 (xs:=xsA) (i:=i) Om Om
 refine G.skip (GQ.blockN (GQ.thenN (YG ?_)))
 refine Yy (ZaddNh i 1) ?_
 refine GL.nil ?_
 exact Zb ⟨(i+1),s,c,rfl,Om,⟨Om,Om⟩,⟨Om,Om⟩,ha.step Om Om,rfl,rfl⟩
 refine G.exit (GQ.thenE (GQ.thenE (GQ.blockE (GQ.thenN (Y5 ?_)))))
 refine Zy (Zgt c 1) ?_
 refine Za 1 ?_
 refine GL.split (t:=34) (p:=((1:Nat):Int)<((c:Nat):Int)) rfl (fun h3=>?_) (fun h3=>?_)
 refine Ya ?_
 refine Yy (Zeq s 2048) ?_
 refine Zn (G.ret ?_)
 repeat first|refine ZR ?_|refine ZB ?_
 exact ret1 [] rfl rfl rfl (⟨congrArg Value.bool (decide_eq_decide.2 (by have e:i=nA:=Om;subst e;rw[List.take_of_length_le Om] at hs hc ha;exact⟨fun h=>⟨Om,ha,Om,Om⟩,fun h=>by have h3:=h.2.2.1;omega⟩)),rfl⟩)
 refine Ya ?_
 refine Zn (G.ret ?_)
 repeat first|refine ZR ?_|refine ZB ?_
 exact ret1 [] rfl rfl rfl (⟨congrArg Value.bool (decide_eq_false (by have e:i=nA:=Om;subst e;rw[List.take_of_length_le Om] at hs hc ha;exact fun h=>by have h3:=h.2.2.2;omega)).symm,rfl⟩)
theorem c_spoken (sA:Seg) (qA:Option Addr) (nA cA jA:Nat) (xsA:List Nat) (hA:Rd qA nA 1 (nats .i64 xsA) sA jA) (sB:Seg) (qB:Option Addr) (nB cB jB:Nat) (xsB:List Nat) (hB:Rd qB nB 1 (nats .u8 xsB) sB jB) (hz:nA≤256) (hB1:nB≤1073741824) (hbb:Bytes xsB) (hw:∃j,j<nA∧xsA.getD j 0≠0):Con Tryz.prog 18 [.slice qA nA cA,.slice qB nB cB] [] [sA,sB] (fun v' l'=>∃v1 v2,v'=.tuple #[v1,v2]∧AppX .u8 (fun ys=>ys.length=nB∧∀y ∈ ys,y<256∧xsA.getD y 0≠0) v2 l'):=by
 refine Zi Tryz.func18 rfl fun w0=>?_
 refine G.seq ?_
 have hlA:=hA.lenN
 have hlB:=hB.lenN
 refine YG ?_
 refine Y2 ?_
 refine Y3 ?_
 refine Yy (Zlen un_25) ?_
 refine Zn (G.block ?_)
 refine G.addE ?_
 refine Zo (fun mz ρ l=>∃i:Nat,∃q:Option Addr,∃b o:Nat,∃cs:List Value,∃cap:Nat,∃P:List Nat,∃m:Nat,mz=nA-i∧(GS q b o cs 1 cap)∧(m≤cap)∧(cs.take m=nats .i64 P)∧(P.length=m)∧(i≤nA∧m≤i)∧(∀x ∈ P,x<256∧xsA.getD x 0≠0)∧(0<m∨∀j,j<i→xsA.getD j 0=0)∧ρ=[(1,.slice qB nB cB),(4,.slice none 0 0),(5,.slice none 0 0),(6,.slice q m cap),(14,.slice qA nA cA),(15,Vh nA),(16,Vh i)]∧l=[⟨b,o,cs,none⟩]) ⟨0,none,0,0,[],0,[],0,rfl,⟨rfl,.inr ⟨rfl,rfl⟩⟩,(Nat.le_refl _),rfl,Ow,⟨Om,Om⟩,Oi,(.inr Om),rfl,rfl⟩ ?_ (hs:=rfl)
 rintro _ _ _ ⟨i,q,b,o,cs,cap,P,m,rfl,hg,hc,hp,hl,hi,hP,hN,rfl,rfl⟩
 refine Y5 ?_
 refine Yy (Zlt i nA) ?_
 refine Z4 ?_
 refine Zc (fun h1=>?_) (fun h1=>?_)
 refine Z7 (G.seq (G.block (Y5 ?_)))
 refine Yy (y_ixG (q':=sA.o+(jA+i)) (m:=i) rfl rfl rfl se_25 Om (hA.ad Om) Om) ?_
 refine Yr (Zkc 0 (jA+i) ag_3 rfl (hA.getN Om)) ?_
 refine Y2 ?_
 refine Yy (Zne (xsA.getD i 0) 0) ?_
 refine Zn ?_
 refine Zc (fun hnz=>?_) (fun hnz=>?_)
 refine YG ?_
 refine Ze (e_bs (ps:=[(0,.tmp 24)]) (pv:=[(0,Vh i)]) (vs:=[Vh i]) 8 rfl ⟨rfl,rfl⟩ el_25 Od Ov rfl rfl) fun b2=>?_
 refine GL.eff (e_appN (k:=.i64) (n:=m) (m:=1) (xs:=P) (ys:=[i]) 1 rfl rfl rfl rfl el_25 rfl rfl hg hp (Src.ofL 0 0 rfl rfl rfl) Oq rfl rfl) rfl ?_
 rintro _ _ ⟨q3,b4,o5,cs6,cap7,hg8,hc9,ht10,rfl,rfl⟩
 refine Ya ?_
 refine GL.nil (GQ.blockN (GQ.thenN (YG ?_)))
 refine Yy (ZaddNh i 1) ?_
 refine GL.nil ?_
 refine GQ.pick [1] rfl ?_
 exact Zb ⟨(i+1),q3,b4,o5,cs6,cap7,(P++[i]),(m+1),rfl,hg8,hc9,ht10,Ow,⟨Om,Om⟩,(all_snoc hP ⟨Om,Om⟩),(.inl Om),rfl,rfl⟩
 refine G.skip (GQ.blockN (GQ.thenN (YG ?_)))
 refine Yy (ZaddNh i 1) ?_
 refine GL.nil ?_
 exact Zb ⟨(i+1),q,b,o,cs,cap,P,m,rfl,hg,hc,hp,Ow,⟨Om,Om⟩,hP,(zero_step hN Om),rfl,rfl⟩
 refine G.exit (GQ.thenE (GQ.thenE (GQ.blockE (GQ.thenN (G.seq ?_)))))
 have hm:0<m:=some_pos hN Om hw
 refine YG ?_
 refine Y2 ?_
 refine Y3 ?_
 refine Yy (Zlen un_22) ?_
 refine Zn (G.block ?_)
 refine G.addE ?_
 refine G.addE ?_
 refine Zo (fun mz ρ l=>∃k:Nat,∃q8:Option Addr,∃b8 o8:Nat,∃cs8:List Value,∃cap8:Nat,∃R:List Nat,∃n8:Nat,∃q9:Option Addr,∃b9 o9:Nat,∃cs9:List Value,∃cap9:Nat,∃W:List Nat,∃n9:Nat,mz=nB-k∧(GS q8 b8 o8 cs8 1 cap8)∧(n8≤cap8)∧(cs8.take n8=nats .i64 R)∧(R.length=n8)∧(GS q9 b9 o9 cs9 1 cap9)∧(n9≤cap9)∧(cs9.take n9=nats .u8 W)∧(W.length=n9)∧(k≤nB∧n8=k∧n9=k)∧(∀y ∈ W,y<256∧xsA.getD y 0≠0)∧ρ=[(4,.slice none 0 0),(5,.slice none 0 0),(6,.slice q m cap),(9,.slice q8 n8 cap8),(10,.slice q9 n9 cap9),(28,.slice qB nB cB),(29,Vh nB),(30,Vh k)]∧l=[⟨b9,o9,cs9,none⟩,⟨b8,o8,cs8,none⟩,⟨b,o,cs,none⟩]) ⟨0,none,0,0,[],0,[],0,none,0,0,[],0,[],0,rfl,⟨rfl,.inr ⟨rfl,rfl⟩⟩,(Nat.le_refl _),rfl,Ow,⟨rfl,.inr ⟨rfl,rfl⟩⟩,(Nat.le_refl _),rfl,Ow,⟨Om,rfl,rfl⟩,Oi,rfl,rfl⟩ ?_ (hs:=rfl)
 rintro _ _ _ ⟨k,q8,b8,o8,cs8,cap8,R,n8,q9,b9,o9,cs9,cap9,W,n9,rfl,hg8,hc8,hp8,hl8,hg9,hc9,hp9,hl9,hk,hQ,rfl,rfl⟩
 refine Y5 ?_
 refine Yy (Zlt k nB) ?_
 refine Z4 ?_
 refine Zc (fun h11=>?_) (fun h11=>?_)
 refine Z7 (G.seq (G.block (Y5 ?_)))
 refine Yy (y_ixG (q':=sB.o+(jB+k)) (m:=k) rfl rfl rfl se_22 Om (hB.ad Om) Om) ?_
 refine Yr (Zkc 1 (jB+k) ag_5 rfl (hB.getN Om)) ?_
 refine Z4 ?_
 have hMm:=Nat.mod_lt (xsB.getD k 0) hm
 have hM:=hP _ (mem_getD (xs:=P) (i:=xsB.getD k 0%m) Om)
 have hM1:=hM.1
 have hbk:=hbb.at_ k
 refine YG ?_
 refine Yy (ZcvNh (xsB.getD k 0) un_5 un_3) ?_
 refine Yy (Zlen un_25) ?_
 refine Yy (ZremNh (xsB.getD k 0) m) ?_
 refine Yy (y_ixG (q':=o+((xsB.getD k 0)%m)) (m:=(xsB.getD k 0)%m) rfl rfl rfl se_25 Om (hg.some' Om) Om) ?_
 refine Yr (Zlc 2 ((xsB.getD k 0)%m) ag_3 rfl (pre_get hp Om)) ?_
 refine Y2 ?_
 refine Ze (e_bs (ps:=[(0,.tmp 43)]) (pv:=[(0,Vh (P.getD ((xsB.getD k 0)%m) 0))]) (vs:=[Vh (P.getD ((xsB.getD k 0)%m) 0)]) 8 rfl ⟨rfl,rfl⟩ el_25 Od Ov rfl rfl) fun b12=>?_
 refine GL.eff (e_appN (k:=.i64) (n:=n8) (m:=1) (xs:=R) (ys:=[P.getD ((xsB.getD k 0)%m) 0]) 2 rfl rfl rfl rfl el_25 rfl rfl hg8 hp8 (Src.ofL 0 0 rfl rfl rfl) Oq rfl rfl) rfl ?_
 rintro _ _ ⟨q13,b14,o15,cs16,cap17,hg18,hc19,ht20,rfl,rfl⟩
 refine Ya ?_
 refine Y1 ?_
 refine Yy (ZcvNa (P.getD ((xsB.getD k 0)%m) 0) un_3 un_5) ?_
 refine Ze (e_bs (ps:=[(0,.tmp 48)]) (pv:=[(0,Va (P.getD ((xsB.getD k 0)%m) 0))]) (vs:=[Va (P.getD ((xsB.getD k 0)%m) 0)]) 1 rfl ⟨rfl,rfl⟩ el_22 Od Ov rfl rfl) fun b21=>?_
 refine GL.eff (e_appN (k:=.u8) (n:=n9) (m:=1) (xs:=W) (ys:=[P.getD ((xsB.getD k 0)%m) 0]) 2 rfl rfl rfl rfl el_22 rfl rfl hg9 hp9 (Src.ofL 0 0 rfl rfl rfl) Oq rfl rfl) rfl ?_
 rintro _ _ ⟨q22,b23,o24,cs25,cap26,hg27,hc28,ht29,rfl,rfl⟩
 refine Ya ?_
 refine GL.nil (GQ.blockN (GQ.thenN (YG ?_)))
 refine Yy (ZaddNh k 1) ?_
 refine GL.nil ?_
 refine GQ.pick [2,2,2] rfl ?_
 exact Zb ⟨(k+1),q13,b14,o15,cs16,cap17,(R++[P.getD ((xsB.getD k 0)%m) 0]),(n8+1),q22,b23,o24,cs25,cap26,(W++[P.getD ((xsB.getD k 0)%m) 0]),(n9+1),rfl,hg18,hc19,ht20,Ow,hg27,hc28,ht29,Ow,⟨Om,Om,Om⟩,(all_snoc hQ hM),rfl,rfl⟩
 refine G.exit (GQ.thenE (GQ.thenE (GQ.blockE (GQ.thenN (Y5 ?_)))))
 refine Zn (G.ret ?_)
 repeat first|refine ZR ?_|refine ZB ?_
 exact ret2 [0] rfl rfl rfl rfl (⟨_,_,rfl,AppX.mk hg9 hc9 hp9 hl9 ⟨Om,hQ⟩⟩)
theorem c_worded (sA:Seg) (qA:Option Addr) (nA cA jA:Nat) (xsA:List Nat) (hA:Rd qA nA 1 (nats .i64 xsA) sA jA) (sB:Seg) (qB:Option Addr) (nB cB jB:Nat) (xsB:List Nat) (hB:Rd qB nB 1 (nats .u8 xsB) sB jB) (hz:nA≤256) (hB1:nB≤1073741824) (hbb:Bytes xsB) (hw:∃j,j<nA∧xsA.getD j 0≠0):Con Tryz.prog 10 [.slice qA nA cA,.slice qB nB cB] [] [sA,sB] (AppX .u8 (fun ys=>ys.length=nB∧∀y ∈ ys,y<256∧xsA.getD y 0≠0)):=by
 refine Zi Tryz.func10 rfl fun w0=>?_
 refine Y5 ?_
 refine Y2 ?_
 refine Zcp [] [0,1] (c_spoken sA qA nA cA jA xsA hA sB qB nB cB jB xsB hB Om Om Oa hw) rfl ?_
 rintro _ _ ⟨v12,_,rfl,⟨q1,b2,o3,cs4,cap5,xs6,n7,rfl,hg8,hc9,hp10,hl11,⟨hLx,hQx⟩,rfl⟩⟩
 refine Ya ?_
 refine Y2 ?_
 refine Zn (G.ret ?_)
 repeat first|refine ZR ?_|refine ZB ?_
 exact ret1 [0] rfl rfl rfl (AppX.mk hg8 hc9 hp10 (by first|assumption|rfl|(simp;omega)|simp_all) (⟨hLx,hQx⟩))
theorem c_codes (sA:Seg) (qA:Option Addr) (nA cA jA:Nat) (xsA:List Nat) (hA:Rd qA nA 1 (nats .i64 xsA) sA jA) (hz:nA≤256):Con Tryz.prog 32 [.slice qA nA cA] [] [sA] (AppR (fun L=>(∀c ∈ L,CodeR xsA c)∧(L≠[]→EvenAll xsA)∧L.length≤2816)):=by
 refine Zi Tryz.func32 rfl fun w0=>?_
 refine G.seq ?_
 have hlA:=hA.lenN
 refine YG ?_
 refine Y2 ?_
 refine Y2 ?_
 refine Y3 ?_
 refine Zn (G.block ?_)
 refine G.addE ?_
 refine Zo (fun mz ρ l=>∃n x:Nat,∃q:Option Addr,∃b o:Nat,∃cs:List Value,∃cap:Nat,∃P:List (Nat × Nat × Nat),∃m:Nat,mz=2*n∧(GS q b o cs 3 cap)∧(m≤cap)∧(cs.take (m*3)=rows f3 P)∧(P.length=m)∧(n≤11∧m≤256*(11-n))∧(x=nxt xsA n)∧(∀c ∈ P,CodeR xsA c)∧(∀m,n<m→m≤11→(nxt xsA m+xsA.count m)%2=0)∧ρ=[(0,.slice qA nA cA),(3,.slice q m cap),(4,Vh x),(5,Vh n)]∧l=[⟨b,o,cs,none⟩]) ⟨11,0,none,0,0,[],0,[],0,rfl,⟨rfl,.inr ⟨rfl,rfl⟩⟩,(Nat.le_refl _),rfl,Ow,⟨Om,Om⟩,rfl,Oi,(fun m h1 h2=>Om),rfl,rfl⟩ ?_ (hs:=rfl)
 rintro _ _ _ ⟨n,x,q,b,o,cs,cap,P,m,rfl,hg,hc,hp,hl,hn,hx,hP,hE,rfl,rfl⟩
 refine Y6 ?_
 refine Yy (Zge n 1) ?_
 refine Zn ?_
 refine Zc (fun h1=>?_) (fun h1=>?_)
 refine Z7 (G.seq (G.block (G.seq (G.seq ?_))))
 have hnl:=nxt_le (ls:=xsA) Om n
 refine YG ?_
 refine Yy (Zlen un_25) ?_
 refine Zn (G.block ?_)
 refine Zo (fun mz ρ l=>∃i y:Nat,∃q:Option Addr,∃b o:Nat,∃cs:List Value,∃cap:Nat,∃P2:List (Nat × Nat × Nat),∃m2:Nat,mz=nA-i∧(GS q b o cs 3 cap)∧(m2≤cap)∧(cs.take (m2*3)=rows f3 P2)∧(P2.length=m2)∧(i≤nA∧m2≤256*(11-n)+i∧y≤256+i)∧(y=x+(xsA.take i).count n)∧(∀c ∈ P2,CodeR xsA c)∧ρ=[(0,.slice qA nA cA),(3,.slice q m2 cap),(4,Vh y),(5,Vh n),(12,.slice qA nA cA),(13,Vh nA),(14,Vh i)]∧l=[⟨b,o,cs,none⟩]) ⟨0,x,q,b,o,cs,cap,P,m,rfl,hg,hc,hp,Ow,⟨Om,Om,Om⟩,Oi,hP,rfl,rfl⟩ ?_
 rintro _ _ _ ⟨i,y,q,b,o,cs,cap,P2,m2,rfl,hg,hc,hp,hl,hi,hy,hP2,rfl,rfl⟩
 refine Y5 ?_
 refine Yy (Zlt i nA) ?_
 refine Z4 ?_
 refine Zc (fun h2=>?_) (fun h2=>?_)
 refine Z7 (G.seq (G.block (Y5 ?_)))
 refine Yy (y_ixG (q':=sA.o+(jA+i)) (m:=i) rfl rfl rfl se_25 Om (hA.ad Om) Om) ?_
 refine Yr (Zkc 0 (jA+i) ag_3 rfl (hA.getN Om)) ?_
 refine Y2 ?_
 refine Yy (Zeq (xsA.getD i 0) n) ?_
 refine Zn ?_
 refine Zc (fun hN2=>?_) (fun hN2=>?_)
 have hN2:xsA.getD i 0=n:=Om
 have hct:=countT1 (xs:=xsA) (i:=i) (n:=n) Om hN2
 refine Y5 ?_
 refine Yy (y_bd (ps:=[(0,.tmp 23),(1,.tmp 24),(2,.tmp 25)]) (pv:=[(0,Vh i),(1,Vh y),(2,Vh n)]) (vs:=[Vh i,Vh y,Vh n]) rfl ⟨rfl,rfl⟩ st_71 zc_71 Ov) ?_
 refine Ze (e_bs (ps:=[(0,.tmp 26)]) (pv:=[(0,.agg #[Vh i,Vh y,Vh n])]) (vs:=[Vh i,Vh y,Vh n]) 24 rfl ⟨rfl,rfl⟩ el_68 Od Ov rfl rfl) fun b3=>?_
 refine GL.eff (e_appR (f:=f3) (n:=m2) (xs:=P2) (y:=(i,y,n)) f3_len f3_one 1 rfl rfl rfl rfl el_68 rfl rfl hg hp (Src.ofL 0 0 rfl rfl rfl) ⟨Om,Om,Om,Om⟩ rfl rfl) rfl ?_
 rintro _ _ ⟨q4,b5,o6,cs7,cap8,hg9,hc10,ht11,rfl,rfl⟩
 refine Ya ?_
 refine Y1 ?_
 refine Yy (ZaddNh y 1) ?_
 refine GL.nil (GQ.blockN (GQ.thenN (YG ?_)))
 refine Yy (ZaddNh i 1) ?_
 refine GL.nil ?_
 refine GQ.pick [1] rfl ?_
 exact Zb ⟨(i+1),(y+1),q4,b5,o6,cs7,cap8,(P2++[(i,y,n)]),(m2+1),rfl,hg9,hc10,ht11,Ow,⟨Om,Om,Om⟩,Om,(all_snoc hP2 ⟨by show i<xsA.length;omega,by show n=xsA.getD i 0∧1≤n∧n≤11;omega,by show y=nxt xsA (xsA.getD i 0)+(xsA.take i).count (xsA.getD i 0)∧y≤512;rw[hN2];omega⟩),rfl,rfl⟩
 have hct:=countT0 (xs:=xsA) (i:=i) (n:=n) Om Om
 refine G.skip (GQ.blockN (GQ.thenN (YG ?_)))
 refine Yy (ZaddNh i 1) ?_
 refine GL.nil ?_
 exact Zb ⟨(i+1),y,q,b,o,cs,cap,P2,m2,rfl,hg,hc,hp,Ow,⟨Om,Om,Om⟩,Om,hP2,rfl,rfl⟩
 refine G.exit (GQ.thenE (GQ.thenE (GQ.blockE (GQ.thenN (G.seq (G.seq ?_))))))
 have e9:i=nA:=Om
 have hy9:y=x+xsA.count n:=by rw[hy,List.take_of_length_le Om]
 refine YG ?_
 refine Yy (ZremNh y 2) ?_
 refine Yy (Zne (y%2) 0) ?_
 refine Zn ?_
 refine Zc (fun hodd=>?_) (fun hodd=>?_)
 refine Y5 ?_
 refine Zn (G.ret ?_)
 refine GQ.addE ?_
 repeat first|refine ZR ?_|refine ZB ?_
 exact ret1 [0] rfl rfl rfl (AppR.nil ⟨fun c hc=>(by cases hc),fun h=>(h rfl).elim,Oi⟩)
 refine Z7 (YG ?_)
 refine Yy (ZquoNh y 2) ?_
 refine GL.nil (GQ.blockN (GQ.thenN (YG ?_)))
 refine Yy (ZsubNh n 1) ?_
 refine GL.nil ?_
 exact Zb ⟨(n-1),(y/2),q,b,o,cs,cap,P2,m2,rfl,hg,hc,hp,Ow,⟨Om,Om⟩,(by rw[nxt_pred xsA (m:=n) Om Om];omega),hP2,(EvenStep hE Om Om),rfl,rfl⟩
 refine G.exit (GQ.thenE (GQ.thenE (GQ.blockE (GQ.thenN (Y5 ?_)))))
 refine Zn (G.ret ?_)
 repeat first|refine ZR ?_|refine ZB ?_
 exact ret1 [0] rfl rfl rfl (AppR.mk hg hc hp hl ⟨hP,fun _ m h1 h2=>hE m Om h2,Om⟩)
theorem c_Code (sA:Seg) (qA:Option Addr) (nA cA jA:Nat) (xsA:List Nat) (hA:Rd qA nA 1 (nats .i64 xsA) sA jA) (y:Nat) (hz:nA≤256) (hy:y<9223372036854775808):Con Tryz.prog 19 [.slice qA nA cA,Vh y] [] [sA] (AppC (CodeOK xsA y)):=by
 refine Zi Tryz.func19 rfl fun w0=>?_
 refine G.seq ?_
 have hlA:=hA.lenN
 refine YG ?_
 refine Y3 ?_
 refine Zcp [] [0] (c_codes sA qA nA cA jA xsA hA Om) rfl ?_
 rintro _ _ ⟨q1,b2,o3,cs4,cap5,xs6,n7,rfl,hg8,hc9,hp10,hl11,⟨hC12,hE13,hncn7⟩,rfl⟩
 refine Yy (Zlen un_68) ?_
 refine Zn (G.block ?_)
 refine Zo (fun mz ρ l=>∃i:Nat,mz=n7-i∧(True)∧ρ=[(1,Vh y),(10,.slice q1 n7 cap5),(11,Vh n7),(12,Vh i)]∧l=[⟨b2,o3,cs4,none⟩]) ⟨0,rfl,trivial,rfl,rfl⟩ ?_
 rintro _ _ _ ⟨i,rfl,hi,rfl,rfl⟩
 refine Y5 ?_
 refine Yy (Zlt i n7) ?_
 refine Z4 ?_
 refine Zc (fun h14=>?_) (fun h14=>?_)
 refine Z7 (G.seq (G.block (G.seq ?_)))
 have hR:=hC12 _ (mem_getD3 (xs:=xs6) (i:=i) Om)
 have hR1:=hR.lt
 have hR2:=hR.len
 have hR3:=hR.num
 have hE9:=hE13 (by intro h0;rw[h0] at hl11;simp at hl11;omega)
 obtain⟨C,hCd⟩:∃C,C=(xs6.getD i (0,0,0)):=⟨_,rfl⟩
 rw[←hCd] at hR1 hR2 hR3
 refine YG ?_
 refine Yy (y_ixG (q':=o3+(i*3)) (m:=i) rfl rfl rfl se_68 Om (hg8.some' Om) Om) ?_
 refine Zr (r_lda (vs:=f3 (xs6.getD i (0,0,0))) 0 (i*3) rfl rfl rfl ag_71 sz_71 rfl (preR_get f3_len _ hp10 (by first|assumption|omega) Om) rfl) ?_
 rw[←hCd]
 refine Ze (Zal zc_71) fun b15=>?_
 refine Ys (Zsw 0 sz_71) ?_
 refine Y3 ?_
 refine Yy (Zf fo_71_0) ?_
 refine Yr (Zl 0 0 ag_3) ?_
 refine Yy (Zne C.1 y) ?_
 refine Zn ?_
 refine Zc (fun hne=>?_) (fun hne=>?_)
 refine G.exit (GQ.thenE (GQ.blockE (GQ.thenN (YG ?_))))
 refine Yy (ZaddNh i 1) ?_
 refine GL.nil ?_
 refine GQ.pick [1] rfl ?_
 exact Zb ⟨(i+1),rfl,trivial,rfl,rfl⟩
 refine Y8 ?_
 refine Y3 ?_
 refine Yy (Zf fo_71_2) ?_
 refine Yr (Zl 0 2 ag_3) ?_
 refine Zy (subI_i64 (a:=((C.2.2:Nat):Int)) (b:=((1:Nat):Int)) rfl rfl rfl Om) ?_
 refine Yy (y_congr (y_as rfl rfl) (int_eq (show((C.2.2:Nat):Int)-((1:Nat):Int)=((C.2.2:Nat):Int)-1-((0:Nat):Int) from by omega))) ?_
 refine Zn (G.block ?_)
 refine G.addE ?_
 refine Zo (fun mz ρ l=>∃j:Nat,∃qu:Option Addr,∃bu ou:Nat,∃csu:List Value,∃capu:Nat,∃P:List Nat,∃m:Nat,mz=C.2.2-j∧(GS qu bu ou csu 1 capu)∧(m≤capu)∧(csu.take m=nats .i64 P)∧(P.length=m)∧(j≤C.2.2∧m=j)∧(P=highT C.2.1 C.2.2 j)∧ρ=[(1,Vh y),(6,Vp b15 0),(7,.slice qu m capu),(8,.int .i64 (((C.2.2:Nat):Int)-1-((j:Nat):Int))),(10,.slice q1 n7 cap5),(11,Vh n7),(12,Vh i)]∧l=[⟨bu,ou,csu,none⟩,⟨b15,0,[Vh C.1,Vh C.2.1,Vh C.2.2],none⟩,⟨b2,o3,cs4,none⟩]) ⟨0,none,0,0,[],0,[],0,rfl,⟨rfl,.inr ⟨rfl,rfl⟩⟩,(Nat.le_refl _),rfl,Ow,⟨Om,rfl⟩,(by simp[highT]),rfl,rfl⟩ ?_ (hs:=rfl)
 rintro _ _ _ ⟨j,qu,bu,ou,csu,capu,P,m,rfl,hgu,hcu,hpu,hlu,hj,hP,rfl,rfl⟩
 refine Y6 ?_
 refine Yy (y_ge (a:=(((C.2.2:Nat):Int)-1-((j:Nat):Int))) (b:=((0:Nat):Int)) rfl rfl rfl) ?_
 refine Zn ?_
 refine Zc (fun h16=>?_) (fun h16=>?_)
 refine Z7 (G.seq (G.block ?_))
 have hd:=Nat.div_le_self C.2.1 (2^(C.2.2-1-j))
 refine YG ?_
 refine Yy (Zf fo_71_1) ?_
 refine Zr (Zl 1 1 ag_3) ?_
 refine Yy (y_congr (y_mv rfl rfl) (int_eq (show((C.2.2:Nat):Int)-1-((j:Nat):Int)=((C.2.2-1-j:Nat):Int) from by omega))) ?_
 refine Yy (ZshrNh C.2.1 (C.2.2-1-j)) ?_
 refine Yy (Zq ((C.2.1/2^(C.2.2-1-j))%2) (ZandNh (C.2.1/2^(C.2.2-1-j)) 1) (Nat.and_one_is_mod _)) ?_
 refine Ze (e_bs (ps:=[(0,.tmp 32)]) (pv:=[(0,Vh ((C.2.1/2^(C.2.2-1-j))%2))]) (vs:=[Vh ((C.2.1/2^(C.2.2-1-j))%2)]) 8 rfl ⟨rfl,rfl⟩ el_25 Od Ov rfl rfl) fun b17=>?_
 refine GL.eff (e_appN (k:=.i64) (n:=m) (m:=1) (xs:=P) (ys:=[(C.2.1/2^(C.2.2-1-j))%2]) 1 rfl rfl rfl rfl el_25 rfl rfl hgu hpu (Src.ofL 0 0 rfl rfl rfl) Oq rfl rfl) rfl ?_
 rintro _ _ ⟨q18,b19,o20,cs21,cap22,hg23,hc24,ht25,rfl,rfl⟩
 refine Ya ?_
 refine GL.nil (GQ.blockN (GQ.thenN (YG ?_)))
 refine Zy (subI_i64 (a:=((C.2.2:Nat):Int)-1-((j:Nat):Int)) (b:=((1:Nat):Int)) rfl rfl rfl Om) ?_
 refine Yy (y_congr (y_as rfl rfl) (int_eq (show(((C.2.2:Nat):Int)-1-((j:Nat):Int))-((1:Nat):Int)=((C.2.2:Nat):Int)-1-((j+1:Nat):Int) from by omega))) ?_
 refine GL.nil ?_
 refine GQ.pick [1,1,1] rfl ?_
 exact Zb ⟨(j+1),q18,b19,o20,cs21,cap22,(P++[(C.2.1/2^(C.2.2-1-j))%2]),(m+1),rfl,hg23,hc24,ht25,Ow,⟨Om,Om⟩,(by rw[hP,highT_succ]),rfl,rfl⟩
 refine G.exit (GQ.thenE (GQ.thenE (GQ.blockE (GQ.thenN (Y5 ?_)))))
 refine Zn (G.ret ?_)
 repeat first|refine ZR ?_|refine ZB ?_
 exact ret1 [0] rfl rfl rfl (AppC.mk hgu hcu hpu hlu ⟨hE9,Om,by have h8:=hR2.1;have e1:C.1=y:=Om;rw[e1] at h8;omega,by have h8:=hR2.1;have h7:=hR3.1;have e1:C.1=y:=Om;rw[e1] at h8 h7;have e:j=C.2.2:=Om;rw[hP,e,highT_all,h7,h8]⟩)
 refine G.exit (GQ.thenE (GQ.thenE (GQ.blockE (GQ.thenN (Y5 ?_)))))
 refine Zn (G.ret ?_)
 refine GQ.addE ?_
 repeat first|refine ZR ?_|refine ZB ?_
 exact ret1 [0] rfl rfl rfl AppC.nil
theorem c_chosen (sA:Seg) (qA:Option Addr) (nA cA jA:Nat) (xsA:List Nat) (hA:Rd qA nA 1 (nats .u8 xsA) sA jA)  (hz:nA≤1152921504606846976) (hb:Bytes xsA):Con Tryz.prog 4 [.slice qA nA cA,Vh 256] [] [sA] (AppX .u8 (fun ys=>ys.length≤256∧Bytes ys)):=by
 refine Zi Tryz.func4 rfl fun w0=>?_
 refine G.seq ?_
 have hlA:=hA.lenN
 refine YG ?_
 refine Y2 ?_
 refine Ze (Zal zc_36) fun b1=>?_
 rw[bls_rep]
 refine Y2 ?_
 refine Y3 ?_
 refine Yy (Zlen un_22) ?_
 refine Zn (G.block ?_)
 refine Zo (fun mz ρ l=>∃i c:Nat,∃hv:List Bool,mz=nA-i∧(i≤nA∧c≤256)∧(hv.length=256)∧ρ=[(1,Vh 256),(4,.slice none 0 0),(5,Vp b1 0),(6,Vh c),(12,.slice qA nA cA),(13,Vh nA),(14,Vh i)]∧l=[⟨b1,0,(bls hv),none⟩]) ⟨0,0,(List.replicate 256 false),rfl,⟨Om,Om⟩,Oi,rfl,rfl⟩ ?_
 rintro _ _ _ ⟨i,c,hv,rfl,hi,hh,rfl,rfl⟩
 refine Y5 ?_
 refine Yy (Zlt i nA) ?_
 refine Z4 ?_
 refine Zc (fun h2=>?_) (fun h2=>?_)
 refine Z7 (G.seq (G.block (G.seq ?_)))
 have hx:=hb.at_ i
 refine YG ?_
 refine Yy (y_ixG (q':=sA.o+(jA+i)) (m:=i) rfl rfl rfl se_22 Om (hA.ad Om) Om) ?_
 refine Yr (Zkc 0 (jA+i) ag_5 rfl (hA.getN Om)) ?_
 refine Y2 ?_
 refine Zy (Zlt c 256) ?_
 refine Za 1 ?_
 refine GL.split (t:=21) (p:=((c:Nat):Int)<((256:Nat):Int)) rfl (fun h3=>?_) (fun h3=>?_)
 refine Ya ?_
 refine Yy (Zxb (xsA.getD i 0) (xsA.getD i 0) ae_36) ?_
 refine Yr (r_ld 0 (xsA.getD i 0) rfl rfl rfl ag_4 (Nat.zero_add _).symm (bls_get Om)) ?_
 refine Yy (y_notB rfl rfl) ?_
 refine Zn ?_
 refine G.cond rfl (fun h4=>?_) (fun h4=>?_)
 refine Y5 ?_
 refine Yy (Zxb (xsA.getD i 0) (xsA.getD i 0) ae_36) ?_
 refine Ys (e_st 0 (xsA.getD i 0) rfl rfl rfl rfl sz_4 rfl (Nat.zero_add _).symm (by first|(rw[bls_length];omega)|(simp;omega)|simp) rfl (bls_set _ _ _)) ?_
 refine Y1 ?_
 refine Yy (ZaddNh c 1) ?_
 refine GL.nil (GQ.blockN (GQ.thenN (YG ?_)))
 refine Yy (ZaddNh i 1) ?_
 refine GL.nil ?_
 exact Zb ⟨(i+1),(c+1),(hv.set (xsA.getD i 0) true),rfl,⟨Om,Om⟩,(by simp[hh]),rfl,rfl⟩
 refine G.skip (GQ.blockN (GQ.thenN (YG ?_)))
 refine Yy (ZaddNh i 1) ?_
 refine GL.nil ?_
 exact Zb ⟨(i+1),c,hv,rfl,⟨Om,Om⟩,(by simp[hh]),rfl,rfl⟩
 refine Ya ?_
 refine Zn (G.condF rfl (G.skip (GQ.blockN (GQ.thenN (YG ?_)))))
 refine Yy (ZaddNh i 1) ?_
 refine GL.nil ?_
 exact Zb ⟨(i+1),c,hv,rfl,⟨Om,Om⟩,(by simp[hh]),rfl,rfl⟩
 refine G.exit (GQ.thenE (GQ.thenE (GQ.blockE (GQ.thenN (Y5 ?_)))))
 refine Y3 ?_
 refine Yr (r_lda 0 0 rfl rfl rfl ag_36 sz_36 rfl (bls_whole Om) (by rw[bls_length];omega)) ?_
 refine Zn (G.block ?_)
 refine G.addE ?_
 refine Zo (fun mz ρ l=>∃j:Nat,∃qw:Option Addr,∃bw ow:Nat,∃csw:List Value,∃capw:Nat,∃W:List Nat,∃m:Nat,mz=256-j∧(GS qw bw ow csw 1 capw)∧(m≤capw)∧(csw.take m=nats .u8 W)∧(W.length=m)∧(j≤256∧m≤j)∧(Bytes W)∧ρ=[(4,.slice none 0 0),(9,.slice qw m capw),(32,.agg (bls hv).toArray),(33,Vh j)]∧l=[⟨bw,ow,csw,none⟩,⟨b1,0,(bls hv),none⟩]) ⟨0,none,0,0,[],0,[],0,rfl,⟨rfl,.inr ⟨rfl,rfl⟩⟩,(Nat.le_refl _),rfl,Ow,⟨Om,Om⟩,(by simp[Bytes]),rfl,rfl⟩ ?_ (hs:=rfl)
 rintro _ _ _ ⟨j,qw,bw,ow,csw,capw,W,m,rfl,hgw,hcw,hpw,hlw,hj,hW,rfl,rfl⟩
 refine Y5 ?_
 refine Yy (Zlt j 256) ?_
 refine Z4 ?_
 refine Zc (fun h5=>?_) (fun h5=>?_)
 refine Z7 (G.seq (G.block (Y5 ?_)))
 refine Yy (y_ixA (xs:=hv) (m:=j) rfl rfl rfl un_36 sz_4 un_4 ⟨Om,Om⟩) ?_
 refine Y2 ?_
 refine Zn ?_
 refine G.cond rfl (fun h6=>?_) (fun h6=>?_)
 refine YG ?_
 refine Yy (ZcvNa j un_3 un_5) ?_
 refine Ze (e_bs (ps:=[(0,.tmp 40)]) (pv:=[(0,Va j)]) (vs:=[Va j]) 1 rfl ⟨rfl,rfl⟩ el_22 Od Ov rfl rfl) fun b7=>?_
 refine GL.eff (e_appN (k:=.u8) (n:=m) (m:=1) (xs:=W) (ys:=[j]) 1 rfl rfl rfl rfl el_22 rfl rfl hgw hpw (Src.ofL 0 0 rfl rfl rfl) Oq rfl rfl) rfl ?_
 rintro _ _ ⟨q8,b9,o10,cs11,cap12,hg13,hc14,ht15,rfl,rfl⟩
 refine Ya ?_
 refine GL.nil (GQ.blockN (GQ.thenN (YG ?_)))
 refine Yy (ZaddNh j 1) ?_
 refine GL.nil ?_
 refine GQ.pick [1,1] rfl ?_
 exact Zb ⟨(j+1),q8,b9,o10,cs11,cap12,(W++[j]),(m+1),rfl,hg13,hc14,ht15,Ow,⟨Om,Om⟩,(all_snoc hW Om),rfl,rfl⟩
 refine G.skip (GQ.blockN (GQ.thenN (YG ?_)))
 refine Yy (ZaddNh j 1) ?_
 refine GL.nil ?_
 exact Zb ⟨(j+1),qw,bw,ow,csw,capw,W,m,rfl,hgw,hcw,hpw,Ow,⟨Om,Om⟩,hW,rfl,rfl⟩
 refine G.exit (GQ.thenE (GQ.thenE (GQ.blockE (GQ.thenN (Y5 ?_)))))
 refine Zn (G.ret ?_)
 repeat first|refine ZR ?_|refine ZB ?_
 exact ret1 [0] rfl rfl rfl (AppX.mk hgw hcw hpw (by first|assumption|rfl|(simp;omega)|simp_all) (⟨Om,hW⟩))
theorem c_Lengths (sA:Seg) (qA:Option Addr) (nA cA jA:Nat) (xsA:List Nat) (hA:Rd qA nA 1 (nats .u8 xsA) sA jA) (sB:Seg) (qB:Option Addr) (nB cB jB:Nat) (xsB:List Nat) (hB:Rd qB nB 1 (nats .u8 xsB) sB jB) (hz:nA≤256) (hb:Bytes xsA) (hzB:nB≤1152921504606846976) (hbB:Bytes xsB):Con Tryz.prog 5 [.slice qA nA cA,.slice qB nB cB] [] [sA,sB] (AppX .i64 (fun ys=>ys.length≤256)):=by
 refine Zi Tryz.func5 rfl fun w0=>?_
 refine G.seq ?_
 have hlA:=hA.lenN
 have hlB:=hB.lenN
 refine YG ?_
 refine Y2 ?_
 refine Y2 ?_
 refine Ze (e_mk (m:=256) (c:=256) rfl rfl rfl el_37 (by first|omega|decide) rfl rfl) fun b1=>?_
 rw[bls_rep]
 refine Ya ?_
 refine Y3 ?_
 refine Yy (Zlen un_22) ?_
 refine Zn (G.block ?_)
 refine G.addE ?_
 refine Zo (fun mz ρ l=>∃i:Nat,∃hv:List Bool,∃qs:Option Addr,∃bs os:Nat,∃css:List Value,∃caps:Nat,∃S:List Nat,∃ns:Nat,mz=nA-i∧(GS qs bs os css 1 caps)∧(ns≤caps)∧(css.take ns=nats .i64 S)∧(S.length=ns)∧(i≤nA∧ns≤i)∧(hv.length=256)∧(Bytes S)∧ρ=[(1,.slice qB nB cB),(4,.slice none 0 0),(5,.slice qs ns caps),(6,Vs b1 0 256 256),(16,.slice qA nA cA),(17,Vh nA),(18,Vh i)]∧l=[⟨bs,os,css,none⟩,⟨b1,0,(bls hv),none⟩]) ⟨0,(List.replicate 256 false),none,0,0,[],0,[],0,rfl,⟨rfl,.inr ⟨rfl,rfl⟩⟩,(Nat.le_refl _),rfl,Ow,⟨Om,Om⟩,Oi,(by simp[Bytes]),rfl,rfl⟩ ?_ (hs:=rfl)
 rintro _ _ _ ⟨i,hv,qs,bs,os,css,caps,S,ns,rfl,hgs,hcs,hps,hls,hi,hh,hS,rfl,rfl⟩
 refine Y5 ?_
 refine Yy (Zlt i nA) ?_
 refine Z4 ?_
 refine Zc (fun h2=>?_) (fun h2=>?_)
 refine Z7 (G.seq (G.block (G.seq ?_)))
 have hx:=hb.at_ i
 refine YG ?_
 refine Yy (y_ixG (q':=sA.o+(jA+i)) (m:=i) rfl rfl rfl se_22 Om (hA.ad Om) Om) ?_
 refine Yr (Zkc 0 (jA+i) ag_5 rfl (hA.getN Om)) ?_
 refine Y2 ?_
 refine Yy (Zx (xsA.getD i 0) (xsA.getD i 0) se_37) ?_
 refine Yr (r_ld 1 (xsA.getD i 0) rfl rfl rfl ag_4 (Nat.zero_add _).symm (bls_get Om)) ?_
 refine Yy (y_notB rfl rfl) ?_
 refine Zn ?_
 refine G.cond rfl (fun hseen=>?_) (fun hseen=>?_)
 refine Y5 ?_
 refine Yy (Zx (xsA.getD i 0) (xsA.getD i 0) se_37) ?_
 refine Ys (e_st 1 (xsA.getD i 0) rfl rfl rfl rfl sz_4 rfl (Nat.zero_add _).symm (by first|(rw[bls_length];omega)|(simp;omega)|simp) rfl (bls_set _ _ _)) ?_
 refine Y1 ?_
 refine Yy (ZcvNh (xsA.getD i 0) un_5 un_3) ?_
 refine Ze (e_bs (ps:=[(0,.tmp 32)]) (pv:=[(0,Vh (xsA.getD i 0))]) (vs:=[Vh (xsA.getD i 0)]) 8 rfl ⟨rfl,rfl⟩ el_25 Od Ov rfl rfl) fun b3=>?_
 refine GL.eff (e_appN (k:=.i64) (n:=ns) (m:=1) (xs:=S) (ys:=[xsA.getD i 0]) 1 rfl rfl rfl rfl el_25 rfl rfl hgs hps (Src.ofL 0 0 rfl rfl rfl) Oq rfl rfl) rfl ?_
 rintro _ _ ⟨q4,b5,o6,cs7,cap8,hg9,hc10,ht11,rfl,rfl⟩
 refine Ya ?_
 refine GL.nil (GQ.blockN (GQ.thenN (YG ?_)))
 refine Yy (ZaddNh i 1) ?_
 refine GL.nil ?_
 refine GQ.pick [1,1] rfl ?_
 exact Zb ⟨(i+1),(hv.set (xsA.getD i 0) true),q4,b5,o6,cs7,cap8,(S++[xsA.getD i 0]),(ns+1),rfl,hg9,hc10,ht11,Ow,⟨Om,Om⟩,(by simp[hh]),(all_snoc hS Om),rfl,rfl⟩
 refine G.skip (GQ.blockN (GQ.thenN (YG ?_)))
 refine Yy (ZaddNh i 1) ?_
 refine GL.nil ?_
 exact Zb ⟨(i+1),hv,qs,bs,os,css,caps,S,ns,rfl,hgs,hcs,hps,Ow,⟨Om,Om⟩,(by simp[hh]),hS,rfl,rfl⟩
 refine G.exit (GQ.thenE (GQ.thenE (GQ.blockE (GQ.thenN (Y6 ?_)))))
 refine Yy (Zlen un_25) ?_
 refine Yy (Zlt ns 2) ?_
 refine Zn ?_
 refine Zc (fun h12=>?_) (fun h12=>?_)
 refine Y5 ?_
 refine Zn (G.ret ?_)
 refine GQ.addE ?_
 repeat first|refine ZR ?_|refine ZB ?_
 exact ret1 [0] rfl rfl rfl (AppX.nil (by first|(simp;done)|omega))
 refine Y8 ?_
 refine Ze (e_bs (ps:=[(0,.const (Vh 1)),(1,.const (Vh 1))]) (pv:=[(0,Vh 1),(1,Vh 1)]) (vs:=[Vh 1,Vh 1]) 8 rfl ⟨rfl,rfl⟩ el_25 Od Ov rfl rfl) fun b13=>?_
 refine Ya ?_
 refine Y3 ?_
 refine Zn (G.block ?_)
 refine Zo (fun mz ρ l=>∃e:Nat,∃qp:Option Addr,∃bp op:Nat,∃csp:List Value,∃capp:Nat,∃P:List Nat,∃m:Nat,mz=ns-m∧(GS qp bp op csp 1 capp)∧(m≤capp)∧(csp.take m=nats .i64 P)∧(P.length=m)∧(m=e+2∧m≤ns)∧(Parted P)∧ρ=[(1,.slice qB nB cB),(4,.slice none 0 0),(5,.slice qs ns caps),(9,.slice qp m capp),(10,Vh e)]∧l=[⟨bp,op,csp,none⟩,⟨bs,os,css,none⟩,⟨b1,0,(bls hv),none⟩]) ⟨0,(some ⟨b13,0,none⟩),b13,0,[Vh 1,Vh 1],2,[1,1],2,rfl,⟨Oi,.inl rfl⟩,Om,rfl,Ow,⟨Om,Om⟩,Parted.two,rfl,rfl⟩ ?_
 rintro _ _ _ ⟨e,qp,bp,op,csp,capp,P,m,rfl,hgp,hcp,hpp,hlp,he,hP,rfl,rfl⟩
 refine Y6 ?_
 refine Yy (Zlen un_25) ?_
 refine Yy (Zlen un_25) ?_
 refine Yy (Zlt m ns) ?_
 refine Zn ?_
 refine Zc (fun h14=>?_) (fun h14=>?_)
 refine Z7 (G.seq (G.block (Y5 ?_)))
 refine Y3 ?_
 refine Yy (Zlen un_22) ?_
 refine Yy (Zgt nB 0) ?_
 refine Zn ?_
 refine G.meetK (fun ρ l=>∃k:Nat,(k<m)∧ρ=[(1,.slice qB nB cB),(4,.slice none 0 0),(5,.slice qs ns caps),(9,.slice qp m capp),(10,Vh e),(11,Vh k),(49,.bool (decide (((0:Nat):Int)<((nB:Nat):Int))))]∧l=[⟨bp,op,csp,none⟩,⟨bs,os,css,none⟩,⟨b1,0,(bls hv),none⟩]) ?_ ?_
 refine Zc (fun h15=>?_) (fun h15=>?_)
 have hmd:=Nat.mod_lt e (show 0<nB by omega)
 have hcb:=hbB.at_ (e%nB)
 have hmm:=Nat.mod_lt (xsB.getD (e%nB) 0) (show 0<m by omega)
 refine YG ?_
 refine Yy (Zlen un_22) ?_
 refine Yy (ZremNh e nB) ?_
 refine Yy (y_ixG (q':=sB.o+(jB+(e%nB))) (m:=e%nB) rfl rfl rfl se_22 Om (hB.ad Om) Om) ?_
 refine Yr (Zkc 1 (jB+(e%nB)) ag_5 rfl (hB.getN Om)) ?_
 refine Yy (ZcvNh (xsB.getD (e%nB) 0) un_5 un_3) ?_
 refine Yy (Zlen un_25) ?_
 refine Yy (ZremNh (xsB.getD (e%nB) 0) m) ?_
 refine GL.nil ?_
 exact Zm ⟨((xsB.getD (e%nB) 0)%m),Om,rfl,rfl⟩
 refine G.skip ?_
 exact Zm ⟨0,Om,rfl,rfl⟩
 rintro _ _ ⟨k,hk,rfl,rfl⟩
 refine GQ.thenN (G.seq (G.block ?_))
 obtain⟨j0,hj1,hj2⟩:=hP.gap Om
 refine Zo (fun mz ρ l=>∃k2:Nat,mz=(j0+m-k2)%m∧(k2<m)∧ρ=[(1,.slice qB nB cB),(4,.slice none 0 0),(5,.slice qs ns caps),(9,.slice qp m capp),(10,Vh e),(11,Vh k2)]∧l=[⟨bp,op,csp,none⟩,⟨bs,os,css,none⟩,⟨b1,0,(bls hv),none⟩]) ⟨k,rfl,Om,rfl,rfl⟩ ?_
 rintro _ _ _ ⟨k2,rfl,hk2,rfl,rfl⟩
 refine Y6 ?_
 refine Yy (y_ixG (q':=op+k2) (m:=k2) rfl rfl rfl se_25 Om (hgp.some' Om) Om) ?_
 refine Yr (Zlc 0 k2 ag_3 rfl (pre_get hpp Ou)) ?_
 refine Yy (Zeq (P.getD k2 0) 11) ?_
 refine Zn ?_
 refine Zc (fun h16=>?_) (fun h16=>?_)
 refine Z7 (G.block ?_)
 have hm2:=Nat.mod_lt (k2+1) (show 0<m by omega)
 refine YG ?_
 refine Yy (ZaddNh k2 1) ?_
 refine Yy (Zlen un_25) ?_
 refine Yy (ZremNh (k2+1) m) ?_
 refine GL.nil (GQ.blockN ?_)
 exact Zb ⟨((k2+1)%m),rfl,Om,rfl,rfl⟩ (cyc_dec Om Om (fun e0=>hj2 (by rw[←e0];omega)))
 refine G.exit (GQ.thenE (GQ.thenE (GQ.blockE (GQ.thenN (G.seq ?_)))))
 have hpk:=hP.at_ (k:=k2) Om
 refine YG ?_
 refine Yy (y_ixG (q':=op+k2) (m:=k2) rfl rfl rfl se_25 Om (hgp.some' Om) Om) ?_
 refine Yr (Zlc 0 k2 ag_3 rfl (pre_get hpp Ou)) ?_
 refine Yy (ZaddNh (P.getD k2 0) 1) ?_
 refine Yy (y_ixG (q':=op+k2) (m:=k2) rfl rfl rfl se_25 Om (hgp.some' Om) Om) ?_
 refine Ys (e_st 0 k2 rfl rfl rfl rfl sz_3 rfl rfl (hgp.j_lt Om) rfl rfl) ?_
 refine Y1 ?_
 refine Yy (y_ixG (q':=op+k2) (m:=k2) rfl rfl rfl se_25 Om ((GS.set hgp k2 (Vh ((P.getD k2 0)+1))).some' Om) Om) ?_
 refine Yr (Zqr (P.getD k2 0+1) (Zlc 0 k2 ag_3 rfl (pre_get (pre_set hpp Om ((P.getD k2 0)+1)) Ou)) (by rw[getD_set' Om,if_pos rfl])) ?_
 refine Ze (e_bs (ps:=[(0,.tmp 81)]) (pv:=[(0,Vh (P.getD k2 0+1))]) (vs:=[Vh (P.getD k2 0+1)]) 8 rfl ⟨rfl,rfl⟩ el_25 Od Ov rfl rfl) fun b17=>?_
 refine GL.eff (e_appN (k:=.i64) (n:=m) (m:=1) (xs:=P.set k2 ((P.getD k2 0)+1)) (ys:=[P.getD k2 0+1]) 1 rfl rfl rfl rfl el_25 rfl rfl (GS.set hgp k2 (Vh ((P.getD k2 0)+1))) (pre_set hpp Om ((P.getD k2 0)+1)) (Src.ofL 0 0 rfl rfl rfl) Oq rfl rfl) rfl ?_
 rintro _ _ ⟨q18,b19,o20,cs21,cap22,hg23,hc24,ht25,rfl,rfl⟩
 refine Ya ?_
 refine GL.nil (GQ.blockN (GQ.thenN (YG ?_)))
 refine Yy (ZaddNh e 1) ?_
 refine GL.nil ?_
 refine GQ.pick [1,1,1] rfl ?_
 exact Zb ⟨(e+1),q18,b19,o20,cs21,cap22,((P.set k2 ((P.getD k2 0)+1))++[P.getD k2 0+1]),(m+1),rfl,hg23,hc24,ht25,Ow,⟨Om,Om⟩,(hP.part Om Om),rfl,rfl⟩
 refine G.exit (GQ.thenE (GQ.thenE (GQ.blockE (GQ.thenN (Y5 ?_)))))
 refine Ze (e_mkN (m:=256) (c:=256) rfl rfl rfl el_25 (by first|omega|decide) rfl rfl) fun b26=>?_
 refine Ya ?_
 refine Y3 ?_
 refine Yy (Zlen un_25) ?_
 refine Zn (G.block ?_)
 refine Zo (fun mz ρ l=>∃i3:Nat,∃out:List Nat,mz=ns-i3∧(i3≤ns)∧(out.length=256)∧ρ=[(4,.slice none 0 0),(9,.slice qp m capp),(12,Vs b26 0 256 256),(85,.slice qs ns caps),(86,Vh ns),(87,Vh i3)]∧l=[⟨b26,0,(nats .i64 out),none⟩,⟨bp,op,csp,none⟩,⟨bs,os,css,none⟩,⟨b1,0,(bls hv),none⟩]) ⟨0,(List.replicate 256 0),rfl,Om,Oi,rfl,rfl⟩ ?_
 rintro _ _ _ ⟨i3,out,rfl,hi3,ho,rfl,rfl⟩
 refine Y5 ?_
 refine Yy (Zlt i3 ns) ?_
 refine Z4 ?_
 refine Zc (fun h27=>?_) (fun h27=>?_)
 refine Z7 (G.seq (G.block (G.seq ?_)))
 have hsx:=hS.at_ i3
 refine YG ?_
 refine Yy (y_ixG (q':=os+i3) (m:=i3) rfl rfl rfl se_25 Om (hgs.some' Om) Om) ?_
 refine Yr (Zlc 2 i3 ag_3 rfl (pre_get hps Ou)) ?_
 refine Y1 ?_
 refine Yy (y_ixG (q':=op+i3) (m:=i3) rfl rfl rfl se_25 Om (hgp.some' Om) Om) ?_
 refine Yr (Zlc 1 i3 ag_3 rfl (pre_get hpp Ou)) ?_
 refine Yy (Zx (S.getD i3 0) (S.getD i3 0) se_25) ?_
 refine Ys (Zsu 0 (S.getD i3 0) sz_3) ?_
 refine GL.nil (GQ.blockN (GQ.thenN (YG ?_)))
 refine Yy (ZaddNh i3 1) ?_
 refine GL.nil ?_
 exact Zb ⟨(i3+1),(out.set (S.getD i3 0) (P.getD i3 0)),rfl,Om,(by simp[ho]),rfl,rfl⟩
 refine G.exit (GQ.thenE (GQ.thenE (GQ.blockE (GQ.thenN (Y5 ?_)))))
 refine Zn (G.ret ?_)
 repeat first|refine ZR ?_|refine ZB ?_
 exact ret1 [0] rfl rfl rfl (AppX.whole (by first|assumption|(simp;omega)) (by first|(simp;done)|omega))
theorem c_HuffText1 (sA:Seg) (qA:Option Addr) (nA cA jA:Nat) (xsA:List Nat) (hA:Rd qA nA 1 (nats .i64 xsA) sA jA) (sB:Seg) (qB:Option Addr) (nB cB jB:Nat) (xsB:List Nat) (hB:Rd qB nB 1 (nats .u8 xsB) sB jB) (paB:PA qB cB) (hcB:nB≤cB)  (hz:nA≤256) (hzB:nB≤1048576) (hbB:Bytes xsB):Con Tryz.prog 11 [.slice qA nA cA,.slice qB nB cB,.bool false] [] [sA,sB] (AppB .u8 (fun ys=>EvenAll xsA∧(∀c ∈ xsB,c<xsA.length∧1≤xsA.getD c 0∧xsA.getD c 0≤11)∧Bytes ys∧ys.length=tN (cdL xsA) xsB/8+1∧tailV ys 0 (tN (cdL xsA) xsB/8+1)=2^tN (cdL xsA) xsB+bitsV (codeBits xsA xsB))):=by
 refine Zi Tryz.func11 rfl fun w0=>?_
 refine G.seq ?_
 have hlA:=hA.lenN
 have hlB:=hB.lenN
 refine YG ?_
 refine Y3 ?_
 refine Zcc [] [0] (c_Whole sA qA nA cA jA xsA hA Om) rfl ?_
 refine Zy (y_not rfl rfl) ?_
 refine Za 1 ?_
 refine GL.split (t:=22) (p:=¬(WholeL xsA)) rfl (fun h1=>?_) (fun h1=>?_)
 refine Ya ?_
 refine Zn (G.condT rfl (Y5 ?_))
 refine Zn (G.ret ?_)
 refine GQ.addE ?_
 repeat first|refine ZR ?_|refine ZB ?_
 exact ret2 [0] rfl rfl rfl rfl AppB.no
 refine Ya ?_
 refine Yy (Zlen un_22) ?_
 refine Yy (Zeq nB 0) ?_
 refine Zn ?_
 refine Zc (fun h2=>?_) (fun h2=>?_)
 refine Y5 ?_
 refine Zn (G.ret ?_)
 refine GQ.addE ?_
 repeat first|refine ZR ?_|refine ZB ?_
 exact ret2 [0] rfl rfl rfl rfl AppB.no
 refine Z7 (Y6 ?_)
 refine Yy (y_notB rfl rfl) ?_
 refine Zn (G.condT rfl (Y5 ?_))
 refine Y2 ?_
 refine Ze (e_mk (m:=256) (c:=256) rfl rfl rfl el_47 (by first|omega|decide) rfl rfl) fun b3=>?_
 rw[slcs_rep]
 refine Ya ?_
 refine Y3 ?_
 refine Yy (Zlen un_22) ?_
 refine Zn (G.block ?_)
 refine G.addE ?_
 refine Zo (fun mz ρ l=>∃i:Nat,∃T:List Sli,∃qp:Option Addr,∃bp op:Nat,∃csp:List Value,∃capp:Nat,∃P:List Nat,∃m:Nat,∃D:List Seg,mz=nB-i∧(GS qp bp op csp 1 capp)∧(m≤capp)∧(csp.take m=nats .i64 P)∧(P.length=m)∧(i≤nB∧m≤11*i)∧(Cache xsA T D)∧(P=codeBits xsA (xsB.take i))∧(0<i→EvenAll xsA)∧(∀c ∈ xsB.take i,c<xsA.length∧1≤xsA.getD c 0∧xsA.getD c 0≤11)∧ρ=[(0,.slice qA nA cA),(1,.slice qB nB cB),(8,.slice qp m capp),(9,Vs b3 0 256 256),(30,.slice qB nB cB),(31,Vh nB),(32,Vh i)]∧l=[⟨bp,op,csp,none⟩,⟨b3,0,(slcs T),none⟩]++D) ⟨0,(List.replicate 256 sli0),none,0,0,[],0,[],0,[],rfl,⟨rfl,.inr ⟨rfl,rfl⟩⟩,(Nat.le_refl _),rfl,Ow,⟨Om,Om⟩,Cache.init,(by simp[codeBits]),(fun h=>Om),Oi,rfl,rfl⟩ ?_ (hs:=rfl)
 rintro _ _ _ ⟨i,T,qp,bp,op,csp,capp,P,m,D,rfl,hgp,hcp,hpp,hlp,hi,hCa,hP,hEv,hCo,rfl,rfl⟩
 refine Y5 ?_
 refine Yy (Zlt i nB) ?_
 refine Z4 ?_
 refine Zc (fun h4=>?_) (fun h4=>?_)
 refine Z7 (G.seq (G.block (G.seq ?_)))
 have hx:=hbB.at_ i
 have hTl:=hCa.len
 refine YG ?_
 refine Yy (y_ixG (q':=sB.o+(jB+i)) (m:=i) rfl rfl rfl se_22 Om (hB.ad Om) Om) ?_
 refine Yr (Zkc 1 (jB+i) ag_5 rfl (hB.getN Om)) ?_
 refine Y3 ?_
 refine Yy (Zx (xsB.getD i 0) (xsB.getD i 0) se_47) ?_
 refine Yr (r_ld 1 (xsB.getD i 0) rfl rfl rfl ag_25 (Nat.zero_add _).symm (slcs_get Om)) ?_
 refine Yy (y_eqSlNil rfl rfl un_25) ?_
 refine Zn ?_
 refine G.meetK (fun ρ l=>∃T2:List Sli,∃D2:List Seg,(Cache xsA T2 D2)∧ρ=[(0,.slice qA nA cA),(1,.slice qB nB cB),(8,.slice qp m capp),(9,Vs b3 0 256 256),(11,Va (xsB.getD i 0)),(30,.slice qB nB cB),(31,Vh nB),(32,Vh i),(40,.bool (((T.getD (xsB.getD i 0) sli0).1).isNone))]∧l=[⟨bp,op,csp,none⟩,⟨b3,0,(slcs T2),none⟩]++D2) ?_ ?_
 refine G.cond rfl (fun h5=>?_) (fun h5=>?_)
 refine YG ?_
 refine Yy (ZcvNh (xsB.getD i 0) un_5 un_3) ?_
 refine GL.eff (e_callM [] (c_Code sA qA nA cA jA xsA hA (xsB.getD i 0) Om Om) rfl rfl rfl rfl Oi rfl rfl) rfl ?_
 rintro _ _ ⟨_,_,⟨q6,b7,o8,cs9,cap10,xs11,n12,rfl,hg13,hc14,hp15,hl16,hK17,rfl⟩,rfl,rfl⟩
 refine Yy (Zx (xsB.getD i 0) (xsB.getD i 0) se_47) ?_
 refine Ys (e_st 2 (xsB.getD i 0) rfl rfl rfl rfl sz_25 rfl (Nat.zero_add _).symm (by rw[slcs_length];omega) rfl (slcs_set _ _ _ _ _)) ?_
 refine GL.nil ?_
 have hCa2:=hCa.put hg13 hc14 hp15 (show xsB.getD i 0<256 by omega) hK17
 refine GQ.lists (l':=⟨b7,o8,cs9,none⟩::([⟨bp,op,csp,none⟩,⟨b3,0,(slcs (T.set (xsB.getD i 0) (q6,n12,cap10))),none⟩]++D)) rfl ?_
 refine GQ.perm (l':=[⟨bp,op,csp,none⟩,⟨b3,0,(slcs (T.set (xsB.getD i 0) (q6,n12,cap10))),none⟩]++(⟨b7,o8,cs9,none⟩::D)) List.perm_middle.symm ?_
 exact Zm ⟨(T.set (xsB.getD i 0) (q6,n12,cap10)),(⟨b7,o8,cs9,none⟩::D),hCa2,rfl,rfl⟩
 refine G.skip ?_
 exact Zm ⟨T,D,hCa,rfl,rfl⟩
 rintro _ _ ⟨T2,D2,hCa,rfl,rfl⟩
 refine GQ.thenN (G.seq (G.seq ?_))
 have hTl2:=hCa.len
 refine YG ?_
 refine Yy (Zx (xsB.getD i 0) (xsB.getD i 0) se_47) ?_
 refine Yr (r_ld 1 (xsB.getD i 0) rfl rfl rfl ag_25 (Nat.zero_add _).symm (slcs_get Om)) ?_
 refine Yy (y_eqSlNil rfl rfl un_25) ?_
 refine Zn ?_
 refine G.cond rfl (fun hnil=>?_) (fun hnil=>?_)
 refine Y5 ?_
 refine Zn (G.ret ?_)
 refine GQ.addE ?_
 repeat first|refine ZR ?_|refine ZB ?_
 exact ret2 [0] rfl rfl rfl rfl AppB.no
 obtain⟨sg,hsg,bits,hCd,hRd⟩:=(hCa.ok (xsB.getD i 0) Om).resolve_left (fun h=>by rw[h] at hnil;cases hnil)
 have hbl:bits.length=xsA.getD (xsB.getD i 0) 0:=by rw[hCd.bits,highB_length]
 have hbl2:=hCd.len
 have hbl3:=hRd.lenN
 refine Z7 (YG ?_)
 refine Yy (Zx (xsB.getD i 0) (xsB.getD i 0) se_47) ?_
 refine Yr (r_ld 1 (xsB.getD i 0) rfl rfl rfl ag_25 (Nat.zero_add _).symm (slcs_get Om)) ?_
 refine GL.eff (e_appN (k:=.i64) (n:=m) (m:=(T2.getD (xsB.getD i 0) sli0).2.1) (xs:=P) (ys:=bits) 0 rfl rfl rfl rfl el_25 rfl rfl hgp hpp (Src.ofRdM (by simp[hsg]) hRd) Oq rfl rfl) rfl ?_
 rintro _ _ ⟨q18,b19,o20,cs21,cap22,hg23,hc24,ht25,rfl,rfl⟩
 refine Ya ?_
 refine GL.nil (GQ.blockN (GQ.thenN (YG ?_)))
 refine Yy (ZaddNh i 1) ?_
 refine GL.nil ?_
 exact Zb ⟨(i+1),T2,q18,b19,o20,cs21,cap22,(P++bits),(m+((T2.getD (xsB.getD i 0) sli0).2.1)),D2,rfl,hg23,hc24,ht25,Ow,⟨Om,Om⟩,hCa,(by rw[take_getD Om,codeBits_snoc, ←hP,hCd.bits]),(fun _=>hCd.even),(by rw[take_getD Om];exact all_snoc hCo ⟨hCd.lt,hCd.len.1,hCd.len.2⟩),rfl,rfl⟩ (hs:=rfl)
 refine G.exit (GQ.thenE (GQ.thenE (GQ.blockE (GQ.thenN (G.seq ?_)))))
 have e9:i=nB:=Om
 rw[List.take_of_length_le Om] at hP hCo
 have hPl:m=tN (cdL xsA) xsB:=by rw[←hlp,hP,codeBits_length]
 have hPbb:Bits P:=hP▸codeBits_bits _ _
 have hPb:bitsV P=bitsV (codeBits xsA xsB):=by rw[hP]
 refine G.pick [0] rfl ?_
 refine YG ?_
 refine Zcp [] [0] (c_packed (⟨bp,op,csp,none⟩) qp m capp 0 P (Rd.ofGN hgp hcp hpp) Oa Om) rfl ?_
 rintro _ _ ⟨q26,b27,o28,cs29,cap30,xs31,n32,rfl,hg33,hc34,hp35,hl36,⟨hBx,hLx,hVx⟩,rfl⟩
 refine Ya ?_
 refine Zn (G.ret ?_)
 repeat first|refine ZR ?_|refine ZB ?_
 exact ret2 [0] rfl rfl rfl rfl (AppB.mk hg33 hc34 hp35 hl36 ⟨hEv Om,hCo,hBx,by rw[hLx,hPl],by rw[←hPl,hVx,hPb]⟩)
theorem c_HuffText4 (sA:Seg) (qA:Option Addr) (nA cA jA:Nat) (xsA:List Nat) (hA:Rd qA nA 1 (nats .i64 xsA) sA jA) (sB:Seg) (qB:Option Addr) (nB cB jB:Nat) (xsB:List Nat) (hB:Rd qB nB 1 (nats .u8 xsB) sB jB) (paB:PA qB cB) (hcB:nB≤cB)  (hz:nA≤256) (hzB:nB≤1048576) (hbB:Bytes xsB) (h6:3*((nB+3)/4)<nB):Con Tryz.prog 11 [.slice qA nA cA,.slice qB nB cB,.bool true] [] [sA,sB] (AppB .u8 (fun ys=>∃Y:List (List Nat),Y.length=4∧(∀j,j<4→PartOK xsA (partT xsB ((nB+3)/4) j) (Y.getD j []))∧ys=heads (Y.take 3)++Y.flatten)):=by
 refine Zi Tryz.func11 rfl fun w0=>?_
 refine G.seq ?_
 have hlA:=hA.lenN
 have hlB:=hB.lenN
 refine YG ?_
 refine Y3 ?_
 refine Zcc [] [0] (c_Whole sA qA nA cA jA xsA hA Om) rfl ?_
 refine Zy (y_not rfl rfl) ?_
 refine Za 1 ?_
 refine GL.split (t:=22) (p:=¬(WholeL xsA)) rfl (fun h1=>?_) (fun h1=>?_)
 refine Ya ?_
 refine Zn (G.condT rfl (Y5 ?_))
 refine Zn (G.ret ?_)
 refine GQ.addE ?_
 repeat first|refine ZR ?_|refine ZB ?_
 exact ret2 [0] rfl rfl rfl rfl AppB.no
 refine Ya ?_
 refine Yy (Zlen un_22) ?_
 refine Yy (Zeq nB 0) ?_
 refine Zn ?_
 refine Zc (fun h2=>?_) (fun h2=>?_)
 refine Y5 ?_
 refine Zn (G.ret ?_)
 refine GQ.addE ?_
 repeat first|refine ZR ?_|refine ZB ?_
 exact ret2 [0] rfl rfl rfl rfl AppB.no
 refine Z7 (Y6 ?_)
 refine Yy (y_notB rfl rfl) ?_
 refine Zn (G.condF rfl (Y8 ?_))
 refine Yy (Zlen un_22) ?_
 refine Yy (ZaddNh nB 3) ?_
 refine Yy (ZquoNh (nB+3) 4) ?_
 refine Y3 ?_
 refine Yy (ZmulNh 3 ((nB+3)/4)) ?_
 refine Yy (Zlen un_22) ?_
 refine Yy (Zge (3*((nB+3)/4)) nB) ?_
 refine Zn ?_
 refine Zc (fun h3=>?_) (fun h3=>?_)
 exfalso;omega
 refine Y8 ?_
 refine Ze (e_bs (ps:=[]) (pv:=[]) (vs:=[]) 1 rfl ⟨rfl,rfl⟩ el_22 Od Ov rfl rfl) fun b4=>?_
 refine Ze (e_bs (ps:=[]) (pv:=[]) (vs:=[]) 1 rfl ⟨rfl,rfl⟩ el_22 Od Ov rfl rfl) fun b5=>?_
 refine Ya ?_
 refine Y3 ?_
 refine Zn (G.block ?_)
 refine Zo (fun mz ρ l=>∃i:Nat,∃qh:Option Addr,∃bh oh:Nat,∃csh:List Value,∃caph:Nat,∃H:List Nat,∃nh:Nat,∃qw:Option Addr,∃bw ow:Nat,∃csw:List Value,∃capw:Nat,∃W:List Nat,∃nw:Nat,∃Y:List (List Nat),mz=4-i∧(GS qh bh oh csh 1 caph)∧(nh≤caph)∧(csh.take nh=nats .u8 H)∧(H.length=nh)∧(GS qw bw ow csw 1 capw)∧(nw≤capw)∧(csw.take nw=nats .u8 W)∧(W.length=nw)∧(i≤4∧nh≤2*i∧nw≤65535*i)∧(Y.length=i)∧(∀j,j<i→PartOK xsA (partT xsB ((nB+3)/4) j) (Y.getD j []))∧(H=heads (Y.take 3))∧(W=Y.flatten)∧ρ=[(0,.slice qA nA cA),(1,.slice qB nB cB),(12,Vh ((nB+3)/4)),(13,.slice qh nh caph),(14,.slice qw nw capw),(73,Vh i)]∧l=[⟨bw,ow,csw,none⟩,⟨bh,oh,csh,none⟩]) ⟨0,(some ⟨b4,0,none⟩),b4,0,[],0,[],0,(some ⟨b5,0,none⟩),b5,0,[],0,[],0,[],rfl,⟨Oi,.inl rfl⟩,Om,rfl,Ow,⟨Oi,.inl rfl⟩,Om,rfl,Ow,⟨Om,Om,Om⟩,rfl,(fun j hj=>Om),rfl,rfl,rfl,rfl⟩ ?_
 rintro _ _ _ ⟨i,qh,bh,oh,csh,caph,H,nh,qw,bw,ow,csw,capw,W,nw,Y,rfl,hgh,hch,hph,hlh,hgw,hcw,hpw,hlw,hi,hY,hPt,hH,hW,rfl,rfl⟩
 refine Y5 ?_
 refine Yy (Zlt i 4) ?_
 refine Z4 ?_
 refine Zc (fun h6=>?_) (fun h6=>?_)
 refine Z7 (G.seq (G.block (G.seq ?_)))
 have hiq:i*((nB+3)/4)≤3*((nB+3)/4):=Nat.mul_le_mul_right _ Om
 have hiq1:(i+1)*((nB+3)/4)=i*((nB+3)/4)+((nB+3)/4):=by rw[Nat.add_mul,Nat.one_mul]
 refine YG ?_
 refine Y2 ?_
 refine Yy (ZaddNh i 1) ?_
 refine Yy (ZmulNh (i+1) ((nB+3)/4)) ?_
 refine Yy (Zlen un_22) ?_
 refine Yy (y_congr (y_min (X:=(((i+1)*((nB+3)/4):Nat):Int)) (Y:=((nB:Nat):Int)) rfl rfl rfl) (int_eq (show min ((((i+1)*((nB+3)/4):Nat):Int)) (((nB:Nat):Int))=((min ((i+1)*((nB+3)/4)) nB:Nat):Int) from by omega))) ?_
 refine Z4 ?_
 have hbq:Bytes ((xsB.drop (i*((nB+3)/4))).take (min ((i+1)*((nB+3)/4)) nB-i*((nB+3)/4))):=fun z hz1=>hbB z (List.mem_of_mem_drop (List.mem_of_mem_take hz1))
 have hpt:(xsB.drop (i*((nB+3)/4))).take (min ((i+1)*((nB+3)/4)) nB-i*((nB+3)/4))=partT xsB ((nB+3)/4) i:=by unfold partT;rw[hlB]
 refine YG ?_
 refine Yy (ZmulNh i ((nB+3)/4)) ?_
 have hD7:Rd (cutA qB (i*((nB+3)/4)) 1 cB) ((min ((i+1)*((nB+3)/4)) nB)-(i*((nB+3)/4))) 1 (nats .u8 ((xsB.drop (i*((nB+3)/4))).take ((min ((i+1)*((nB+3)/4)) nB)-(i*((nB+3)/4))))) sB (jB+(i*((nB+3)/4))*1):=Rd.cut hB Om (by simp[nats,ints,List.map_take,List.map_drop]) (fun h0=>cutA_some (hB.ad Om) Om Om)
 refine Yy (y_slG (lo:=i*((nB+3)/4)) (hi:=min ((i+1)*((nB+3)/4)) nB) rfl rfl rfl rfl se_22 Om paB.nilcap) ?_
 refine Zcp [] [2,3] (c_HuffText1 sA qA nA cA jA xsA hA sB (cutA qB (i*((nB+3)/4)) 1 cB) ((min ((i+1)*((nB+3)/4)) nB)-(i*((nB+3)/4))) (cB-(i*((nB+3)/4))) (jB+(i*((nB+3)/4))*1) ((xsB.drop (i*((nB+3)/4))).take ((min ((i+1)*((nB+3)/4)) nB)-(i*((nB+3)/4)))) hD7 paB.cut Om Om Om hbq) rfl ?_
 rintro _ _ ⟨ok20,q8,b9,o10,cs11,cap12,xs13,n14,rfl,hg15,hc16,hp17,hl18,hx19,rfl⟩
 refine Ya ?_
 refine Y3 ?_
 refine Zy (y_notB rfl rfl) ?_
 refine Za 1 ?_
 refine GL.splitB (t:=96) (b:= !ok20) rfl (fun hnot=>?_) (fun hnot=>?_)
 refine Ya ?_
 refine Zn (G.condT rfl (Y5 ?_))
 refine Zn (G.ret ?_)
 refine GQ.addE ?_
 repeat first|refine ZR ?_|refine ZB ?_
 exact ret2 [0] rfl rfl rfl rfl AppB.no
 refine Ya ?_
 refine Yy (Zlen un_22) ?_
 refine Yy (Zgt n14 65535) ?_
 refine Zn ?_
 refine Zc (fun hlong=>?_) (fun hlong=>?_)
 refine Y5 ?_
 refine Zn (G.ret ?_)
 refine GQ.addE ?_
 repeat first|refine ZR ?_|refine ZB ?_
 exact ret2 [0] rfl rfl rfl rfl AppB.no
 refine Z7 (G.seq (G.seq ?_))
 have hok:ok20=true:=by simpa using hnot
 obtain⟨hE1,hC1,hB1,hL1,hV1⟩:=hx19 hok
 have hPart:PartOK xsA (partT xsB ((nB+3)/4) i) xs13:=⟨hE1,hpt▸hC1,hB1,⟨hpt▸hL1,Om⟩,hpt▸hV1⟩
 refine YG ?_
 refine Yy (Zlt i 3) ?_
 refine Zn ?_
 refine Zc (fun h21=>?_) (fun h21=>?_)
 refine YG ?_
 refine Yy (Zlen un_22) ?_
 refine Yy (ZcvWa n14 un_3 un_5) ?_
 refine Yy (Zlen un_22) ?_
 refine Yy (ZshrNh n14 8) ?_
 refine Yy (ZcvNa (n14/2^8) un_3 un_5) ?_
 refine Ze (e_bs (ps:=[(0,.tmp 106),(1,.tmp 110)]) (pv:=[(0,Va (n14%256)),(1,Va (n14/2^8))]) (vs:=[Va (n14%256),Va (n14/2^8)]) 1 rfl ⟨rfl,rfl⟩ el_22 Od Ov rfl rfl) fun b22=>?_
 refine GL.eff (e_appN (k:=.u8) (n:=nh) (m:=2) (xs:=H) (ys:=[n14%256,n14/2^8]) 3 rfl rfl rfl rfl el_22 rfl rfl hgh hph (Src.ofL 0 0 rfl rfl rfl) Oq rfl rfl) rfl ?_
 rintro _ _ ⟨q23,b24,o25,cs26,cap27,hg28,hc29,ht30,rfl,rfl⟩
 refine Ya ?_
 refine Y1 ?_
 refine GL.eff (e_appN (k:=.u8) (n:=nw) (m:=n14) (xs:=W) (ys:=xs13) 2 rfl rfl rfl rfl el_22 rfl rfl hgw hpw (Src.ofRd 1 rfl (Rd.ofGN hg15 hc16 hp17)) Oq rfl rfl) rfl ?_
 rintro _ _ ⟨q31,b32,o33,cs34,cap35,hg36,hc37,ht38,rfl,rfl⟩
 refine Ya ?_
 refine GL.nil (GQ.blockN (GQ.thenN (YG ?_)))
 refine Yy (ZaddNh i 1) ?_
 refine GL.nil ?_
 refine GQ.pick [2,2] rfl ?_
 exact Zb ⟨(i+1),q23,b24,o25,cs26,cap27,(H++[n14%256,n14/2^8]),(nh+2),q31,b32,o33,cs34,cap35,(W++xs13),(nw+n14),(Y++[xs13]),rfl,hg28,hc29,ht30,Ow,hg36,hc37,ht38,Ow,⟨Om,Om,Om⟩,(by rw[List.length_append,List.length_singleton];omega),(parts_step hPt hY hPart),(by rw[heads_step Om hl18,hH]),(by rw[hW];simp),rfl,rfl⟩
 refine Z7 (YG ?_)
 refine GL.eff (e_appN (k:=.u8) (n:=nw) (m:=n14) (xs:=W) (ys:=xs13) 1 rfl rfl rfl rfl el_22 rfl rfl hgw hpw (Src.ofRd 0 rfl (Rd.ofGN hg15 hc16 hp17)) Oq rfl rfl) rfl ?_
 rintro _ _ ⟨q39,b40,o41,cs42,cap43,hg44,hc45,ht46,rfl,rfl⟩
 refine Ya ?_
 refine GL.nil (GQ.blockN (GQ.thenN (YG ?_)))
 refine Yy (ZaddNh i 1) ?_
 refine GL.nil ?_
 refine GQ.pick [1,1] rfl ?_
 exact Zb ⟨(i+1),qh,bh,oh,csh,caph,H,nh,q39,b40,o41,cs42,cap43,(W++xs13),(nw+n14),(Y++[xs13]),rfl,hgh,hch,hph,Ow,hg44,hc45,ht46,Ow,⟨Om,Om,Om⟩,(by rw[List.length_append,List.length_singleton];omega),(parts_step hPt hY hPart),(by rw[heads_last Om];exact hH),(by rw[hW];simp),rfl,rfl⟩
 refine G.exit (GQ.thenE (GQ.thenE (GQ.blockE (GQ.thenN (Y5 ?_)))))
 refine GL.eff (e_appN (k:=.u8) (n:=nh) (m:=nw) (xs:=H) (ys:=W) 1 rfl rfl rfl rfl el_22 rfl rfl hgh hph (Src.ofRd 0 rfl (Rd.ofGN hgw hcw hpw)) Oq rfl rfl) rfl ?_
 rintro _ _ ⟨q47,b48,o49,cs50,cap51,hg52,hc53,ht54,rfl,rfl⟩
 refine Ya ?_
 refine Zn (G.ret ?_)
 repeat first|refine ZR ?_|refine ZB ?_
 exact ret2 [1] rfl rfl rfl rfl (AppB.mk hg52 hc53 ht54 (by rw[List.length_append];omega) ⟨Y,Om,fun j hj=>hPt j Om,by rw[hH,hW]⟩)
theorem c_described (sA:Seg) (qA:Option Addr) (nA cA jA:Nat) (xsA:List Nat) (hA:Rd qA nA 1 (nats .i64 xsA) sA jA)  (hz:nA≤256) (ha:AllLe xsA 63):Con Tryz.prog 71 [.slice qA nA cA,Vh 6] [] [sA] (AppB .i64 (fun bs=>∃E,bs=lowB 1 4++E∧Descr 64 xsA E∧bs.length≤4+16*nA∧xsA.sum=64∧1<nzc xsA)):=by
 refine Zi Tryz.func71 rfl fun w0=>?_
 refine G.seq ?_
 have hlA:=hA.lenN
 refine YG ?_
 refine Z4 (G.seq ?_)
 have ha64:AllLe xsA 64:=fun x hx=>Nat.le_succ_of_le (ha x hx)
 refine YG ?_
 refine Zcc [] [0] (c_Shares sA qA nA cA jA xsA hA Om Oa) rfl ?_
 refine Yy (y_not rfl rfl) ?_
 refine Zn ?_
 refine Zc (fun hS=>?_) (fun hS=>?_)
 refine Y5 ?_
 refine Zn (G.ret ?_)
 refine GQ.addE ?_
 repeat first|refine ZR ?_|refine ZB ?_
 exact ret2 [0] rfl rfl rfl rfl AppB.no
 have hS2:xsA.sum=64:=by have h9:=hS;omega
 have hS3:1<nzc xsA:=by have h9:=hS;omega
 refine Y8 ?_
 refine Zy (Zq 1 (ZsubNh 6 5) Od) ?_
 refine GL.addE ?_
 refine Zcp [0] [] (c_low none 0 0 [] 0 [] 0 ⟨rfl,.inr ⟨rfl,rfl⟩⟩ (Nat.le_refl _) rfl rfl 1 4 Om Om Om) rfl ?_
 rintro _ _ ⟨q1,b2,o3,cs4,cap5,rfl,hg6,hc7,hp8,hl9,rfl⟩
 refine Ya ?_
 refine Y2 ?_
 refine Yy (Zq 64 (ZshlNh 1 6) Od) ?_
 refine Y3 ?_
 refine Zn (G.block ?_)
 refine Zo (fun mz ρ l=>∃left i:Nat,∃qp:Option Addr,∃bp op:Nat,∃csp:List Value,∃capp:Nat,∃P:List Nat,∃m:Nat,∃E:List Nat,mz=nA-i∧(GS qp bp op csp 1 capp)∧(m≤capp)∧(csp.take m=nats .i64 P)∧(P.length=m)∧(i≤nA∧left+(xsA.take i).sum=64∧m≤4+16*i)∧(P=lowB 1 4++E)∧(∀rest,Descr left (xsA.drop i) rest→Descr 64 xsA (E++rest))∧ρ=[(0,.slice qA nA cA),(4,.slice none 0 0),(5,.bool false),(6,.slice qp m capp),(7,Vh left),(8,Vh i)]∧l=[⟨bp,op,csp,none⟩]) ⟨64,0,q1,b2,o3,cs4,cap5,([]++lowB 1 4),(0+4),[],rfl,hg6,hc7,hp8,Ow,⟨Om,Oi,Om⟩,Oi,(fun rest h=>h),rfl,rfl⟩ ?_
 rintro _ _ _ ⟨left,i,qp,bp,op,csp,capp,P,m,E,rfl,hgp,hcp,hpp,hlp,hi,hPE,hD,rfl,rfl⟩
 refine Y6 ?_
 refine Yy (Zgt left 0) ?_
 refine Zn ?_
 refine Zc (fun h10=>?_) (fun h10=>?_)
 refine Z7 (G.seq (G.block (G.seq ?_)))
 have hin:i<nA:=by refine Classical.byContradiction fun hn=>?_;rw[List.take_of_length_le Om] at hi;omega
 have hs1:=sumT (xs:=xsA) (i:=i) Om
 have hs2:=sum_take_le xsA (i+1)
 have hK1:=blen_ge (show 0<left+1 by omega)
 have hK2:=blen_lt (left+1)
 have hK7:blen (left+1)≤7:=blen_le Om
 have hKp:=blen_pos (show 0<left+1 by omega)
 have hK8:=pow_le hK7
 have hax:=ha.at_ i
 refine YG ?_
 refine Yy (y_ixG (q':=sA.o+(jA+i)) (m:=i) rfl rfl rfl se_25 Om (hA.ad Om) Om) ?_
 refine Yr (Zkc 0 (jA+i) ag_3 rfl (hA.getN Om)) ?_
 refine Y2 ?_
 refine Yy (ZaddNh left 1) ?_
 refine Y2 ?_
 refine Zcc [] [] (c_highBit (left+1) Om Om) rfl ?_
 refine Yy (Zq (blen (left+1)) (ZaddNh (blen (left+1)-1) 1)) ?_
 refine Y2 ?_
 refine Yy (Zq (2^blen (left+1)) (ZshlNh 1 (blen (left+1))) (Nat.one_mul _)) ?_
 refine Yy (ZsubNh (2^blen (left+1)) 1) ?_
 refine Yy (ZsubNh ((2^blen (left+1))-1) (left+1)) ?_
 refine Y2 ?_
 refine Yy (ZaddNh (xsA.getD i 0) 1) ?_
 refine Z4 (G.block (Y5 ?_))
 refine Yy (Zlt ((xsA.getD i 0)+1) (((2^blen (left+1))-1)-(left+1))) ?_
 refine Zn ?_
 refine G.meetK (fun ρ l=>∃qq:Option Addr,∃bq oq:Nat,∃csq:List Value,∃capq:Nat,∃P2:List Nat,∃m2:Nat,(GS qq bq oq csq 1 capq)∧(m2≤capq)∧(csq.take m2=nats .i64 P2)∧(P2.length=m2)∧(P2=P++encV (left+1) (xsA.getD i 0+1))∧(m2≤m+7)∧ρ=[(0,.slice qA nA cA),(4,.slice none 0 0),(5,.bool false),(6,.slice qq m2 capq),(7,Vh left),(8,Vh i),(9,Vh (xsA.getD i 0)),(11,Vh (blen (left+1))),(12,Vh (((2^blen (left+1))-1)-(left+1))),(13,Vh ((xsA.getD i 0)+1)),(50,.bool (decide ((((xsA.getD i 0)+1:Nat):Int)<((((2^blen (left+1))-1)-(left+1):Nat):Int))))]∧l=[⟨bq,oq,csq,none⟩]) ?_ ?_
 refine Zc (fun h11=>?_) (fun h11=>?_)
 refine YG ?_
 refine Yy (ZsubNh (blen (left+1)) 1) ?_
 refine Zcp [0] [] (c_low qp bp op csp capp P m hgp hcp hpp (by first|rfl|assumption|(simp;omega)|simp_all) ((xsA.getD i 0)+1) ((blen (left+1))-1) Om Om Om) rfl ?_
 rintro _ _ ⟨q12,b13,o14,cs15,cap16,rfl,hg17,hc18,hp19,hl20,rfl⟩
 refine Ya ?_
 refine GL.nil ?_
 exact Zm ⟨q12,b13,o14,cs15,cap16,(P++lowB ((xsA.getD i 0)+1) ((blen (left+1))-1)),(m+((blen (left+1))-1)),hg17,hc18,hp19,Ow,(by unfold encV;first|(rw[if_pos Om];done)|(rw[if_neg Om,if_pos Om];done)|(rw[if_neg Om,if_neg Om];done)),Om,rfl,rfl⟩
 refine G.seq ?_
 have hK9:=pow_le (show blen (left+1)-1≤7 by omega)
 refine YG ?_
 refine Yy (ZsubNh (blen (left+1)) 1) ?_
 refine Yy (Zq (2^(blen (left+1)-1)) (ZshlNh 1 ((blen (left+1))-1)) (Nat.one_mul _)) ?_
 refine Yy (Zlt ((xsA.getD i 0)+1) (2^(blen (left+1)-1))) ?_
 refine Zn ?_
 refine Zc (fun h21=>?_) (fun h21=>?_)
 refine YG ?_
 refine Zcp [0] [] (c_low qp bp op csp capp P m hgp hcp hpp (by first|rfl|assumption|(simp;omega)|simp_all) ((xsA.getD i 0)+1) (blen (left+1)) Om Om Om) rfl ?_
 rintro _ _ ⟨q22,b23,o24,cs25,cap26,rfl,hg27,hc28,hp29,hl30,rfl⟩
 refine Ya ?_
 refine GL.nil ?_
 exact Zm ⟨q22,b23,o24,cs25,cap26,(P++lowB ((xsA.getD i 0)+1) (blen (left+1))),(m+(blen (left+1))),hg27,hc28,hp29,Ow,(by unfold encV;first|(rw[if_pos Om];done)|(rw[if_neg Om,if_pos Om];done)|(rw[if_neg Om,if_neg Om];done)),Om,rfl,rfl⟩
 refine YG ?_
 refine Yy (ZaddNh ((xsA.getD i 0)+1) (((2^blen (left+1))-1)-(left+1))) ?_
 refine Zcp [0] [] (c_low qp bp op csp capp P m hgp hcp hpp (by first|rfl|assumption|(simp;omega)|simp_all) (((xsA.getD i 0)+1)+(((2^blen (left+1))-1)-(left+1))) (blen (left+1)) Om Om Om) rfl ?_
 rintro _ _ ⟨q31,b32,o33,cs34,cap35,rfl,hg36,hc37,hp38,hl39,rfl⟩
 refine Ya ?_
 refine GL.nil ?_
 exact Zm ⟨q31,b32,o33,cs34,cap35,(P++lowB (((xsA.getD i 0)+1)+(((2^blen (left+1))-1)-(left+1))) (blen (left+1))),(m+(blen (left+1))),hg36,hc37,hp38,Ow,(by unfold encV;first|(rw[if_pos Om];done)|(rw[if_neg Om,if_pos Om];done)|(rw[if_neg Om,if_neg Om];done)),Om,rfl,rfl⟩
 rintro _ _ ⟨qq,bq,oq,csq,capq,P2,m2,hgq,hcq,hpq,hlq,hP2,hm2,rfl,rfl⟩
 refine GQ.blockN (GQ.thenN (Y5 ?_))
 refine Yy (y_neg_i64 rfl rfl Om) ?_
 refine Yy (y_congr (y_max (X:=((xsA.getD i 0:Nat):Int)) (Y:=(-((xsA.getD i 0:Nat)))) rfl rfl rfl) (int_eq (show max ((xsA.getD i 0:Nat):Int) (-((xsA.getD i 0:Nat)))=((xsA.getD i 0:Nat):Int) from by omega))) ?_
 refine Yy (ZsubNh left (xsA.getD i 0)) ?_
 refine Y3 ?_
 refine Yy (Zne (xsA.getD i 0) 0) ?_
 refine Zn ?_
 refine Zc (fun hn=>?_) (fun hn=>?_)
 refine G.exit (GQ.thenE (GQ.blockE (GQ.thenN (YG ?_))))
 refine Yy (ZaddNh i 1) ?_
 refine GL.nil ?_
 exact Zb ⟨(left-(xsA.getD i 0)),(i+1),qq,bq,oq,csq,capq,P2,m2,(E++encV (left+1) (xsA.getD i 0+1)),rfl,hgq,hcq,hpq,Ow,⟨Om,Om,Om⟩,(by rw[hP2,hPE,List.append_assoc]),(Descr.stepP hD Om rfl Om Om),rfl,rfl⟩
 have hn0:xsA.getD i 0=0:=Om
 obtain⟨c0,hc1,hc2,hc3⟩:=sum_more (xs:=xsA) _ (i+1) rfl Om
 refine Y8 ?_
 refine Z4 (G.block ?_)
 refine Zo (fun mz ρ l=>∃z i2:Nat,mz=c0+1-i2∧(i2=i+z∧i2+1≤c0)∧(∀j,j<z→xsA.getD (i+1+j) 0=0)∧ρ=[(0,.slice qA nA cA),(4,.slice none 0 0),(5,.bool false),(6,.slice qq m2 capq),(7,Vh (left-(xsA.getD i 0))),(8,Vh i2),(14,Vh z)]∧l=[⟨bq,oq,csq,none⟩]) ⟨0,i,rfl,⟨Om,Om⟩,(fun j hj=>Om),rfl,rfl⟩ ?_
 rintro _ _ _ ⟨z,i2,rfl,hz0,hz,rfl,rfl⟩
 refine Y6 ?_
 refine Yy (ZaddNh i2 1) ?_
 refine Yy (y_ixG (q':=sA.o+(jA+(i2+1))) (m:=i2+1) rfl rfl rfl se_25 Om (hA.ad Om) Om) ?_
 refine Yr (Zkc 0 (jA+(i2+1)) ag_3 rfl (hA.getN Om)) ?_
 refine Yy (Zeq (xsA.getD (i2+1) 0) 0) ?_
 refine Zn ?_
 refine Zc (fun hz9=>?_) (fun hz9=>?_)
 refine Z7 (G.block (G.seq ?_))
 have hzn:=zrun_step hz (show xsA.getD (i+1+z) 0=0 by rw[show i+1+z=i2+1 by omega];omega)
 refine YG ?_
 refine Yy (ZaddNh z 1) ?_
 refine Y1 ?_
 refine Yy (ZaddNh i2 1) ?_
 refine GL.nil (GQ.blockN ?_)
 exact Zb ⟨(z+1),(i2+1),rfl,⟨Om,zrun_le (i:=i+1) (z:=z+1) hzn hc1 hc3 |> fun h=>Om⟩,hzn,rfl,rfl⟩
 have hs9:=sum_zrun (i:=i+1) z hz Om
 rw[show i+1+z=i2+1 by omega] at hs9
 have hce:xsA.getD (i+1+z) 0≠0:=by rw[show i+1+z=i2+1 by omega];omega
 refine G.exit (GQ.thenE (GQ.thenE (GQ.blockE (GQ.thenN (G.seq (G.block ?_))))))
 refine Zo (fun mz ρ l=>∃y:Nat,∃qr:Option Addr,∃br or:Nat,∃csr:List Value,∃capr:Nat,∃P3:List Nat,∃m3:Nat,mz=2*y∧(GS qr br or csr 1 capr)∧(m3≤capr)∧(csr.take m3=nats .i64 P3)∧(P3.length=m3)∧(P3++zerosB y=P2++zerosB z)∧(m3+y≤m2+z∧y≤z)∧ρ=[(0,.slice qA nA cA),(4,.slice none 0 0),(5,.bool false),(6,.slice qr m3 capr),(7,Vh (left-(xsA.getD i 0))),(8,Vh i2),(14,Vh y)]∧l=[⟨br,or,csr,none⟩]) ⟨z,qq,bq,oq,csq,capq,P2,m2,rfl,hgq,hcq,hpq,Ow,rfl,⟨Om,Om⟩,rfl,rfl⟩ ?_
 rintro _ _ _ ⟨y,qr,br,or,csr,capr,P3,m3,rfl,hgr,hcr,hpr,hlr,hP3,hm3,rfl,rfl⟩
 refine Y6 ?_
 refine Yy (Zge y 3) ?_
 refine Zn ?_
 refine Zc (fun h40=>?_) (fun h40=>?_)
 refine Z7 (G.block (Y5 ?_))
 refine Zcp [0] [] (c_low qr br or csr capr P3 m3 hgr hcr hpr (by first|rfl|assumption|(simp;omega)|simp_all) 3 2 Om Om Om) rfl ?_
 rintro _ _ ⟨q41,b42,o43,cs44,cap45,rfl,hg46,hc47,hp48,hl49,rfl⟩
 refine Ya ?_
 refine Y1 ?_
 refine Yy (ZsubNh y 3) ?_
 refine GL.nil (GQ.blockN ?_)
 exact Zb ⟨(y-3),q41,b42,o43,cs44,cap45,(P3++lowB 3 2),(m3+2),rfl,hg46,hc47,hp48,Ow,(by rw[List.append_assoc, ←zerosB_step Om];exact hP3),⟨Om,Om⟩,rfl,rfl⟩
 refine G.exit (GQ.thenE (GQ.thenE (GQ.blockE (GQ.thenN (YG ?_)))))
 refine Zcp [0] [] (c_low qr br or csr capr P3 m3 hgr hcr hpr (by first|rfl|assumption|(simp;omega)|simp_all) y 2 Om Om Om) rfl ?_
 rintro _ _ ⟨q50,b51,o52,cs53,cap54,rfl,hg55,hc56,hp57,hl58,rfl⟩
 refine Ya ?_
 refine GL.nil (GQ.blockN (GQ.thenN (YG ?_)))
 refine Yy (ZaddNh i2 1) ?_
 refine GL.nil ?_
 exact Zb ⟨(left-(xsA.getD i 0)),(i2+1),q50,b51,o52,cs53,cap54,(P3++lowB y 2),(m3+2),(E++(encV (left+1) 1++zerosB z)),rfl,hg55,hc56,hp57,Ow,⟨Om,Om,Om⟩,(by rw[←zerosB_end Om,hP3,hP2,hPE,hn0,List.append_assoc,List.append_assoc]),(by have h9:=Descr.stepZ hD (z:=z) Om Om Om hz Om;rw[hn0,Nat.sub_zero];rwa [show i+1+z=i2+1 by omega] at h9),rfl,rfl⟩
 refine G.exit (GQ.thenE (GQ.thenE (GQ.blockE (GQ.thenN (Y5 ?_)))))
 refine Zn (G.ret ?_)
 repeat first|refine ZR ?_|refine ZB ?_
 exact ret2 [0] rfl rfl rfl rfl (AppB.mk hgp hcp hpp hlp ⟨E,hPE,by have h9:=hD [] (by have e0:left=0:=Om;subst e0;exact Descr.done _);rwa [List.append_nil] at h9,by rw[hlp];omega,hS2,hS3⟩)
theorem c_FseWrite (sA:Seg) (qA:Option Addr) (nA cA jA:Nat) (xsA:List Nat) (hA:Rd qA nA 1 (nats .i64 xsA) sA jA)  (hz:nA≤256) (ha:AllLe xsA 63):Con Tryz.prog 48 [.slice qA nA cA,Vh 6] [] [sA] (AppB .u8 (DescrB xsA)):=by
 refine Zi Tryz.func48 rfl fun w0=>?_
 refine G.seq ?_
 have hlA:=hA.lenN
 refine YG ?_
 refine Y2 ?_
 refine Zcp [] [0] (c_described sA qA nA cA jA xsA hA Om Oa) rfl ?_
 rintro _ _ ⟨ok13,q1,b2,o3,cs4,cap5,xs6,n7,rfl,hg8,hc9,hp10,hl11,hx12,rfl⟩
 refine Ya ?_
 refine Y3 ?_
 refine Yy (y_notB rfl rfl) ?_
 refine Zn ?_
 refine G.cond rfl (fun hnot=>?_) (fun hnot=>?_)
 refine Y5 ?_
 refine Zn (G.ret ?_)
 refine GQ.addE ?_
 repeat first|refine ZR ?_|refine ZB ?_
 exact ret2 [0] rfl rfl rfl rfl AppB.no
 have hok:ok13=true:=by simpa using hnot
 obtain⟨E,hPE,hDE,hEn,hS2,hS3⟩:=hx12 hok
 have hbb:=hDE.bits4 hPE
 have hEl:xs6.length=4+E.length:=by rw[hPE,List.length_append,lowB_length]
 refine Y8 ?_
 refine Yy (Zlen un_25) ?_
 refine Yy (ZaddNh n7 7) ?_
 refine Yy (ZquoNh (n7+7) 8) ?_
 refine Ze (e_mkN (m:=(n7+7)/8) (c:=(n7+7)/8) rfl rfl rfl el_22 (by first|omega|decide) rfl rfl) fun b14=>?_
 refine Ya ?_
 refine Y3 ?_
 refine Yy (Zlen un_25) ?_
 refine Zn (G.block ?_)
 refine Zo (fun mz ρ l=>∃i:Nat,∃ys:List Nat,mz=n7-i∧(i≤n7)∧(Bytes ys)∧(ys.length=(n7+7)/8)∧(tailV ys 0 ((n7+7)/8)=lowV (xs6.take i))∧ρ=[(4,.slice none 0 0),(5,.bool false),(8,Vs b14 0 ((n7+7)/8) ((n7+7)/8)),(24,.slice q1 n7 cap5),(25,Vh n7),(26,Vh i)]∧l=[⟨b14,0,(nats .u8 ys),none⟩,⟨b2,o3,cs4,none⟩]) ⟨0,(List.replicate ((n7+7)/8) 0),rfl,Om,Bytes.rep0 _,Oi,(tailV_rep0 _ _ _),rfl,rfl⟩ ?_ (hs:=rfl)
 rintro _ _ _ ⟨i,ys,rfl,hi,hB,hL,hV,rfl,rfl⟩
 refine Y5 ?_
 refine Yy (Zlt i n7) ?_
 refine Z4 ?_
 refine Zc (fun h15=>?_) (fun h15=>?_)
 refine Z7 (G.seq (G.block (Y5 ?_)))
 refine Yy (y_ixG (q':=o3+i) (m:=i) rfl rfl rfl se_25 Om (hg8.some' Om) Om) ?_
 refine Yr (Zlc 1 i ag_3 rfl (pre_get hp10 Ou)) ?_
 refine Zn ?_
 have hx:=hbb.at_ i
 have hS:=fw_step hbb hB hL (i:=i) Om Om hV
 have hsm:=shl8 (i%8) Om
 have hm1:xs6.getD i 0*2^(i%8)≤1*2^(i%8):=Nat.mul_le_mul_right _ Om
 have hy:=hB.at_ (i/8)
 have hS3:=hS.2.2
 refine Zg 4096 [y_0,y_1,y_2,y_3,r_4,y_5,y_6,y_7,y_8,y_9,y_10,y_11,e_12] ?_
 refine Ypa ?_
 refine Ypy (ZquoNh i 8) ?_
 refine Ypy (Zx (i/8) (i/8) se_22) ?_
 refine Ypr (r_ld 0 (i/8) rfl rfl rfl ag_5 (Nat.zero_add _).symm (nats_get Oy)) ?_
 refine Ypy (ZremNh i 8) ?_
 refine Ypy (ZshlNh (xs6.getD i 0) (i%8)) ?_
 refine Ypy (ZcvNa ((xs6.getD i 0)*2^(i%8)) un_3 un_5) ?_
 refine Ypy (ZorNa (ys.getD (i/8) 0) ((xs6.getD i 0)*2^(i%8))) ?_
 refine Ypy (Zx (i/8) (i/8) se_22) ?_
 refine Yps (Zsu 0 (i/8) sz_5) ?_
 refine GP.nil (GQ.blockN (GQ.thenN (YG ?_)))
 refine Yy (ZaddNh i 1) ?_
 refine GL.nil ?_
 exact Zb ⟨(i+1),(ys.set (i/8) ((ys.getD (i/8) 0)|||((xs6.getD i 0)*2^(i%8)))),rfl,Om,hS.2.1,(by rw[List.length_set];exact hL),hS.1,rfl,rfl⟩
 refine G.exit (GQ.thenE (GQ.thenE (GQ.blockE (GQ.thenN (Y5 ?_)))))
 refine Zn (G.ret ?_)
 repeat first|refine ZR ?_|refine ZB ?_
 exact ret2 [0] rfl rfl rfl rfl (AppB.whole Om (by rw[List.take_of_length_le Om,hPE] at hV;rw[show n7=4+E.length by omega] at hV hL;exact⟨⟨E,hDE,hB,hL,hV,Om⟩,hS2,hS3⟩))
theorem c_spread (sA:Seg) (qA:Option Addr) (nA cA jA:Nat) (xsA:List Nat) (hA:Rd qA nA 1 (nats .i64 xsA) sA jA)  (hC:CountsB 6 xsA):Con Tryz.prog 50 [.slice qA nA cA,Vh 6] [] [sA] (App .i64 (cellsF 6 xsA) 64):=by
 refine Zi Tryz.func50 rfl fun w0=>?_
 refine G.seq ?_
 have hlA:=hA.lenN
 have hcl:=hC.len
 refine YG ?_
 refine Y2 ?_
 refine Yy (Zq 64 (ZshlNh 1 6) Od) ?_
 refine Y2 ?_
 refine Ze (e_mkN (m:=64) (c:=64) rfl rfl rfl el_25 (by first|omega|decide) rfl rfl) fun b1=>?_
 refine Ya ?_
 refine Z4 (G.seq ?_)
 rw[nats_ints0]
 refine YG ?_
 refine Yy (Zlen un_25) ?_
 refine Zn (G.block ?_)
 refine Zo (fun mz ρ l=>∃i:Nat,∃Z0:List Int,mz=64-i∧(i≤64)∧(Z0.length=64)∧ρ=[(0,.slice qA nA cA),(4,.slice none 0 0),(5,Vh 64),(6,Vs b1 0 64 64),(20,Vh 64),(21,Vh i)]∧l=[⟨b1,0,(ints .i64 Z0),none⟩]) ⟨0,(List.replicate 64 0),rfl,Om,Oi,rfl,rfl⟩ ?_
 rintro _ _ _ ⟨i,Z0,rfl,hi,hZ0,rfl,rfl⟩
 refine Y5 ?_
 refine Yy (Zlt i 64) ?_
 refine Z4 ?_
 refine Zc (fun h2=>?_) (fun h2=>?_)
 refine Z7 (G.seq (G.block (Y5 ?_)))
 refine Y1 ?_
 refine Yy (Zx i i se_25) ?_
 refine Ys (e_st 0 i rfl rfl rfl rfl sz_3 rfl (Nat.zero_add _).symm Oz rfl (ints_set _ _ _ _)) ?_
 refine GL.nil (GQ.blockN (GQ.thenN (YG ?_)))
 refine Yy (ZaddNh i 1) ?_
 refine GL.nil ?_
 exact Zb ⟨(i+1),(Z0.set i (-1)),rfl,Om,(by simp[hZ0]),rfl,rfl⟩
 refine G.exit (GQ.thenE (GQ.thenE (GQ.blockE (GQ.thenN (G.seq ?_)))))
 obtain⟨FF,hFF⟩:∃F,F=placeZ 64 (flatC 0 xsA) 0 Z0:=⟨_,rfl⟩
 refine YG ?_
 refine Yy (Zq 63 (ZsubNh 64 1) Od) ?_
 refine Y3 ?_
 refine Yy (Zlen un_25) ?_
 refine Zn (G.block ?_)
 refine Zo (fun mz ρ l=>∃j:Nat,mz=nA-j∧(j≤nA)∧ρ=[(0,.slice qA nA cA),(4,.slice none 0 0),(5,Vh 64),(6,Vs b1 0 64 64),(8,Vh 63),(30,.slice qA nA cA),(31,Vh nA),(32,Vh j)]∧l=[⟨b1,0,(ints .i64 Z0),none⟩]) ⟨0,rfl,Om,rfl,rfl⟩ ?_
 rintro _ _ _ ⟨j,rfl,hj,rfl,rfl⟩
 refine Y5 ?_
 refine Yy (Zlt j nA) ?_
 refine Z4 ?_
 refine Zc (fun h3=>?_) (fun h3=>?_)
 refine Z7 (G.seq (G.block (Y5 ?_)))
 refine Yy (y_ixG (q':=sA.o+(jA+j)) (m:=j) rfl rfl rfl se_25 Om (hA.ad Om) Om) ?_
 refine Yr (Zkc 0 (jA+j) ag_3 rfl (hA.getN Om)) ?_
 refine Y2 ?_
 refine Zy (y_eq (a:=((xsA.getD j 0:Nat):Int)) (b:=(-1)) rfl rfl rfl) ?_
 refine Za 1 ?_
 refine GL.knowF (t:=39) (p:=((xsA.getD j 0:Nat):Int)=(-1)) rfl Om ?_
 refine Ya ?_
 refine Zn (G.condF rfl (G.skip (GQ.blockN (GQ.thenN (YG ?_)))))
 refine Yy (ZaddNh j 1) ?_
 refine GL.nil ?_
 exact Zb ⟨(j+1),rfl,Om,rfl,rfl⟩
 refine G.exit (GQ.thenE (GQ.thenE (GQ.blockE (GQ.thenN (Y5 ?_)))))
 refine Yy (Zq 32 (ZquoNh 64 2) Od) ?_
 refine Yy (Zq 8 (ZquoNh 64 8) Od) ?_
 refine Yy (Zq 40 (ZaddNh 32 8) Od) ?_
 refine Yy (Zq 43 (ZaddNh 40 3) Od) ?_
 refine Y2 ?_
 refine Y3 ?_
 refine Yy (Zlen un_25) ?_
 refine Zn (G.block ?_)
 refine Zo (fun mz ρ l=>∃s p:Nat,∃Z:List Int,mz=nA-s∧(s≤nA∧p<64)∧(Z.length=64)∧(placeZ 64 (flatC s (xsA.drop s)) p Z=FF)∧ρ=[(5,Vh 64),(6,Vs b1 0 64 64),(8,Vh 63),(11,Vh 43),(12,Vh p),(56,.slice qA nA cA),(57,Vh nA),(58,Vh s)]∧l=[⟨b1,0,(ints .i64 Z),none⟩]) ⟨0,0,Z0,rfl,⟨Om,Om⟩,hZ0,hFF.symm,rfl,rfl⟩ ?_
 rintro _ _ _ ⟨s,p,Z,rfl,hs,hZ,hF,rfl,rfl⟩
 refine Y5 ?_
 refine Yy (Zlt s nA) ?_
 refine Z4 ?_
 refine Zc (fun h4=>?_) (fun h4=>?_)
 refine Z7 (G.seq (G.block (Y5 ?_)))
 refine Yy (y_ixG (q':=sA.o+(jA+s)) (m:=s) rfl rfl rfl se_25 Om (hA.ad Om) Om) ?_
 refine Yr (Zkc 0 (jA+s) ag_3 rfl (hA.getN Om)) ?_
 refine Z4 ?_
 have hle:=hC.at_ s
 refine YG ?_
 refine Yy (y_congr (y_max (X:=((xsA.getD s 0:Nat):Int)) (Y:=((0:Nat):Int)) rfl rfl rfl) (int_eq (show max ((xsA.getD s 0:Nat):Int) ((0:Nat):Int)=((xsA.getD s 0:Nat):Int) from by omega))) ?_
 refine Zn (G.block ?_)
 refine Zo (fun mz ρ l=>∃k p:Nat,∃Z:List Int,mz=xsA.getD s 0-k∧(k≤xsA.getD s 0∧p<64)∧(Z.length=64)∧(placeZ 64 (List.replicate (xsA.getD s 0-k) s++flatC (s+1) (xsA.drop (s+1))) p Z=FF)∧ρ=[(5,Vh 64),(6,Vs b1 0 64 64),(8,Vh 63),(11,Vh 43),(12,Vh p),(13,Vh s),(56,.slice qA nA cA),(57,Vh nA),(58,Vh s),(64,Vh (xsA.getD s 0)),(65,Vh k)]∧l=[⟨b1,0,(ints .i64 Z),none⟩]) ⟨0,p,Z,rfl,⟨Om,Om⟩,hZ,(place_begin hF Om),rfl,rfl⟩ ?_
 rintro _ _ _ ⟨k,p,Z,rfl,hk,hZ,hF2,rfl,rfl⟩
 refine Y5 ?_
 refine Yy (Zlt k (xsA.getD s 0)) ?_
 refine Z4 ?_
 refine Zc (fun h5=>?_) (fun h5=>?_)
 refine Z7 (G.seq (G.block (Y6 ?_)))
 refine Yy (Zgt p 63) ?_
 refine Zn ?_
 refine Zc (fun h6=>?_) (fun h6=>?_)
 exfalso;omega
 refine Y8 ?_
 refine Yy (Zx p p se_25) ?_
 refine Ys (e_st 0 p rfl rfl rfl rfl sz_3 rfl (Nat.zero_add _).symm Oz rfl (ints_set _ _ _ _)) ?_
 refine Y2 ?_
 refine Yy (ZaddNh p 43) ?_
 refine Yy (ZremNh (p+43) 64) ?_
 refine Zn (G.block ?_)
 refine Zo (fun mz ρ l=>mz=0∧ρ=[(5,Vh 64),(6,Vs b1 0 64 64),(8,Vh 63),(11,Vh 43),(12,Vh ((p+43)%64)),(13,Vh s),(56,.slice qA nA cA),(57,Vh nA),(58,Vh s),(64,Vh (xsA.getD s 0)),(65,Vh k)]∧l=[⟨b1,0,(ints .i64 (Z.set p (s:Nat))),none⟩]) ⟨rfl,rfl,rfl⟩ ?_
 rintro _ _ _ ⟨rfl,rfl,rfl⟩
 refine Y6 ?_
 refine Zy (Zgt ((p+43)%64) 63) ?_
 refine Za 1 ?_
 refine GL.knowF (t:=82) (p:=((63:Nat):Int)<(((p+43)%64:Nat):Int)) rfl Om ?_
 refine Ya ?_
 refine Zn (G.condF rfl (G.exit (GQ.thenE (GQ.thenE (GQ.blockE (GQ.blockN (GQ.thenN (YG ?_))))))))
 refine Yy (ZaddNh k 1) ?_
 refine GL.nil ?_
 exact Zb ⟨(k+1),((p+43)%64),(Z.set p (s:Nat)),rfl,⟨Om,Om⟩,(by rw[List.length_set];exact hZ),(place_next hF2 Om),rfl,rfl⟩
 refine G.exit (GQ.thenE (GQ.thenE (GQ.blockE (GQ.blockN (GQ.thenN (YG ?_))))))
 refine Yy (ZaddNh s 1) ?_
 refine GL.nil ?_
 exact Zb ⟨(s+1),p,Z,rfl,⟨Om,Om⟩,hZ,(place_over hF2 Om),rfl,rfl⟩
 refine G.exit (GQ.thenE (GQ.thenE (GQ.blockE (GQ.thenN (Y5 ?_)))))
 refine Zn (G.ret ?_)
 repeat first|refine ZR ?_|refine ZB ?_
 exact ret1 [0] rfl rfl rfl (App.ofInts (by rw[place_end hF Om,hFF];exact placeZ_nats hC hZ0) cellsF_length)
theorem c_states (sA:Seg) (qA:Option Addr) (nA cA jA:Nat) (xsA:List Nat) (hA:Rd qA nA 1 (nats .i64 xsA) sA jA)  (hC:CountsB 6 xsA):Con Tryz.prog 27 [.slice qA nA cA,Vh 6] [] [sA] (AppRB (fun T=>T=tableF 6 xsA)):=by
 refine Zi Tryz.func27 rfl fun w0=>?_
 refine G.seq ?_
 have hlA:=hA.lenN
 have hcl:=hC.len
 have hsum:xsA.sum=64:=hC.sum
 refine YG ?_
 refine Y2 ?_
 refine Yy (Zq 64 (ZshlNh 1 6) Od) ?_
 refine Y2 ?_
 refine Y3 ?_
 refine Yy (Zlen un_25) ?_
 refine Zn (G.block ?_)
 refine Zo (fun mz ρ l=>∃i z:Nat,mz=nA-i∧(i≤nA∧z=(xsA.take i).sum)∧ρ=[(0,.slice qA nA cA),(1,Vh 6),(4,.slice none 0 0),(5,.bool false),(6,Vh 64),(7,Vh z),(20,.slice qA nA cA),(21,Vh nA),(22,Vh i)]∧l=[]) ⟨0,0,rfl,⟨Om,Oi⟩,rfl,rfl⟩ ?_
 rintro _ _ _ ⟨i,z,rfl,hi,rfl,rfl⟩
 refine Y5 ?_
 refine Yy (Zlt i nA) ?_
 refine Z4 ?_
 refine Zc (fun h1=>?_) (fun h1=>?_)
 refine Z7 (G.seq (G.block (G.seq ?_)))
 have hs1:=sumT (xs:=xsA) (i:=i) Om
 have hs2:=sum_take_le xsA (i+1)
 refine YG ?_
 refine Yy (y_ixG (q':=sA.o+(jA+i)) (m:=i) rfl rfl rfl se_25 Om (hA.ad Om) Om) ?_
 refine Yr (Zkc 0 (jA+i) ag_3 rfl (hA.getN Om)) ?_
 refine Y3 ?_
 refine Yy (Zlt (xsA.getD i 0) 0) ?_
 refine Zn ?_
 refine G.condDF rfl Om ?_
 refine Z7 (YG ?_)
 refine Yy (ZaddNh z (xsA.getD i 0)) ?_
 refine GL.nil (GQ.blockN (GQ.thenN (YG ?_)))
 refine Yy (ZaddNh i 1) ?_
 refine GL.nil ?_
 exact Zb ⟨(i+1),(z+(xsA.getD i 0)),rfl,⟨Om,Om⟩,rfl,rfl⟩
 refine G.exit (GQ.thenE (GQ.thenE (GQ.blockE (GQ.thenN (Y6 ?_)))))
 refine Yy (Zne z 64) ?_
 refine Zn ?_
 have hz0:z=64:=by have e:i=nA:=Om;subst e;rw[List.take_of_length_le Om] at hi;omega
 refine Zc (fun h2=>?_) (fun h2=>?_)
 exfalso;omega
 refine Y8 ?_
 refine Zcp [] [0] (c_spread sA qA nA cA jA xsA hA Oa) rfl ?_
 rintro _ _ ⟨q3,b4,o5,cs6,cap7,rfl,hg8,hc9,hp10,hl11,rfl⟩
 refine Ya ?_
 refine Y3 ?_
 refine Yy (y_eqSlNil rfl rfl un_25) ?_
 refine Zn ?_
 refine G.cond rfl (fun h12=>?_) (fun h12=>?_)
 refine Y5 ?_
 refine Zn (G.ret ?_)
 refine GQ.addE ?_
 repeat first|refine ZR ?_|refine ZB ?_
 exact ret2 [0] rfl rfl rfl rfl AppRB.no
 refine Y8 ?_
 refine Yy (Zlen un_25) ?_
 refine Ze (e_mkN (m:=nA) (c:=nA) rfl rfl rfl el_25 (by first|omega|decide) rfl rfl) fun b13=>?_
 refine Ya ?_
 refine Y2 ?_
 refine Ze (e_mkk (m:=64) (c:=64) rfl rfl rfl el_61 rfl Od (by first|omega|decide) rfl rfl) fun b14=>?_
 refine Ya ?_
 refine Z4 (G.seq ?_)
 rw[rows_rep0]
 refine YG ?_
 refine Yy (Zlen un_25) ?_
 refine Zn (G.block ?_)
 refine Zo (fun mz ρ l=>∃u:Nat,∃S:List Nat,∃T:List (Nat × Nat × Nat),mz=64-u∧(u≤64∧S.length=nA)∧(T.length=64)∧(∀x,x<nA→S.getD x 0=((cellsF 6 xsA).take u).count x)∧(∀j,j<u→T.getD j (0,0,0)=(tableF 6 xsA).getD j (0,0,0))∧ρ=[(0,.slice qA nA cA),(1,Vh 6),(6,Vh 64),(11,Vs b13 0 nA nA),(12,Vs b14 0 64 64),(45,.slice q3 64 cap7),(46,Vh 64),(47,Vh u)]∧l=[⟨b14,0,(rows f3 T),none⟩,⟨b13,0,(nats .i64 S),none⟩,⟨b4,o5,cs6,none⟩]) ⟨0,(List.replicate nA 0),(List.replicate 64 (0,0,0)),rfl,⟨Om,Oi⟩,Oi,(fun x _=>by rw[getD_rep0];rfl),(fun j hj=>Om),rfl,rfl⟩ ?_ (hs:=rfl)
 rintro _ _ _ ⟨u,S,T,rfl,hu,hTl,hS,hO,rfl,rfl⟩
 refine Y5 ?_
 refine Yy (Zlt u 64) ?_
 refine Z4 ?_
 refine Zc (fun h15=>?_) (fun h15=>?_)
 refine Z7 (G.seq (G.block (G.seq ?_)))
 obtain⟨s,k,hT,hs,hsl,hk,hk1,hk2,hk3,hk4,hk5,hk6⟩:=tableF_get hC (u:=u) Om
 have hSs:=hS s Om
 have hb7:blen k≤7:=blen_le Om
 have hbp:=blen_pos (show 0<k by omega)
 have hpw:=Nat.pow_pos (n:=6-(blen k-1)) (show 0<2 by decide)
 refine YG ?_
 refine Yy (y_ixG (q':=o5+u) (m:=u) rfl rfl rfl se_25 Om (hg8.some' Om) Om) ?_
 refine Yr (Zqr s (Zlc 2 u ag_3 rfl (pre_get hp10 Ou)) hs.symm) ?_
 refine Y3 ?_
 refine Yy (Zlt s 0) ?_
 refine Zn ?_
 refine G.condDF rfl Om ?_
 refine Y8 ?_
 refine Yy (y_ixG (q':=sA.o+(jA+s)) (m:=s) rfl rfl rfl se_25 Om (hA.ad Om) Om) ?_
 refine Yr (Zkc 0 (jA+s) ag_3 rfl (hA.getN Om)) ?_
 refine Y3 ?_
 refine Yy (Zlt (xsA.getD s 0) 0) ?_
 refine Zn ?_
 refine G.condDF rfl Om ?_
 refine Y8 ?_
 refine Yy (Zx s s se_25) ?_
 refine Yr (r_ld 1 s rfl rfl rfl ag_3 (Nat.zero_add _).symm (nats_get Oy)) ?_
 refine Yy (Zq k (ZaddNh (xsA.getD s 0) (S.getD s 0)) Om) ?_
 refine Y2 ?_
 refine Yy (Zx s s se_25) ?_
 refine Yr (r_ld 1 s rfl rfl rfl ag_3 (Nat.zero_add _).symm (nats_get Oy)) ?_
 refine Yy (ZaddNh (S.getD s 0) 1) ?_
 refine Yy (Zx s s se_25) ?_
 refine Ys (Zsu 1 s sz_3) ?_
 refine Y2 ?_
 refine Zcc [] [] (c_highBit k Om Om) rfl ?_
 refine Yy (ZsubNh 6 (blen k-1)) ?_
 refine Y1 ?_
 refine Yy (ZshlNh k (6-(blen k-1))) ?_
 refine Yy (ZsubNh (k*2^(6-(blen k-1))) 64) ?_
 refine Yy (y_bd (ps:=[(0,.tmp 78),(1,.tmp 79),(2,.tmp 84)]) (pv:=[(0,Vh s),(1,Vh (6-(blen k-1))),(2,Vh ((k*2^(6-(blen k-1)))-64))]) (vs:=[Vh s,Vh (6-(blen k-1)),Vh ((k*2^(6-(blen k-1)))-64)]) rfl ⟨rfl,rfl⟩ st_135 zc_135 Ov) ?_
 refine Yy (y_ix (q':=u*3) (m:=u) rfl rfl rfl se_61 Om Om) ?_
 refine Ys (e_sta (vs:=f3 (s,6-(blen k-1),(k*2^(6-(blen k-1)))-64)) (cs':=rows f3 (T.set u (s,6-(blen k-1),(k*2^(6-(blen k-1)))-64))) 0 (u*3) rfl rfl rfl rfl sz_135 rfl rfl (Nat.zero_add _).symm (by rw[rows_length f3_len];omega) rfl (rows_set f3_len Om _)) ?_
 refine GL.nil (GQ.blockN (GQ.thenN (YG ?_)))
 refine Yy (ZaddNh u 1) ?_
 refine GL.nil ?_
 exact Zb ⟨(u+1),(S.set s ((S.getD s 0)+1)),(T.set u (s,6-(blen k-1),(k*2^(6-(blen k-1)))-64)),rfl,⟨Om,Oz⟩,(by rw[List.length_set];exact hTl),(seen_step hS (by rw[cellsF_length];omega) hs.symm hu.2 Om),(outs_step hO Om hT),rfl,rfl⟩
 refine G.exit (GQ.thenE (GQ.thenE (GQ.blockE (GQ.thenN (Y5 ?_)))))
 refine Zn (G.ret ?_)
 repeat first|refine ZR ?_|refine ZB ?_
 exact ret2 [0] rfl rfl rfl rfl (AppRB.whole hTl (outs_done hO (by rw[hTl,tableF_length]) Om))
theorem c_FseText (sA:Seg) (qA:Option Addr) (nA cA jA:Nat) (xsA:List Nat) (hA:Rd qA nA 1 (nats .i64 xsA) sA jA)  (sB:Seg) (qB:Option Addr) (nB cB jB:Nat) (xsB:List Nat) (hB:Rd qB nB 1 (nats .u8 xsB) sB jB) (hC:CountsB 6 xsA) (hzB:nB≤256) (hbB:Bytes xsB):Con Tryz.prog 49 [.slice qA nA cA,Vh 6,.slice qB nB cB] [] [sA,sB] (AppB .u8 (FsePacked (tableF 6 xsA) xsB)):=by
 refine Zi Tryz.func49 rfl fun w0=>?_
 refine G.seq ?_
 have hlA:=hA.lenN
 have hlB:=hB.lenN
 have hcl:=hC.len
 refine YG ?_
 refine Y2 ?_
 refine Zcp [] [0] (c_states sA qA nA cA jA xsA hA Oa) rfl ?_
 rintro _ _ ⟨ok13,q1,b2,o3,cs4,cap5,xs6,n7,rfl,hg8,hc9,hp10,hl11,hx12,rfl⟩
 refine Ya ?_
 refine Y3 ?_
 refine Zy (y_notB rfl rfl) ?_
 refine Za 1 ?_
 refine GL.splitB (t:=26) (b:= !ok13) rfl (fun hnk=>?_) (fun hnk=>?_)
 refine Ya ?_
 refine Zn (G.condT rfl (Y5 ?_))
 refine Zn (G.ret ?_)
 refine GQ.addE ?_
 repeat first|refine ZR ?_|refine ZB ?_
 exact ret2 [0] rfl rfl rfl rfl AppB.no
 refine Ya ?_
 refine Yy (Zlen un_22) ?_
 refine Yy (Zlt nB 2) ?_
 refine Zn ?_
 refine Zc (fun hbad=>?_) (fun hbad=>?_)
 refine Y5 ?_
 refine Zn (G.ret ?_)
 refine GQ.addE ?_
 repeat first|refine ZR ?_|refine ZB ?_
 exact ret2 [0] rfl rfl rfl rfl AppB.no
 have hok:ok13=true:=by simpa using hnk
 have hT:xs6=tableF 6 xsA:=hx12 hok
 have hTn:n7=64:=by rw[←hl11,hT,tableF_length]
 refine Y8 ?_
 refine Yy (Zlen un_22) ?_
 refine Ze (e_mkN (m:=nB) (c:=nB) rfl rfl rfl el_25 (by first|omega|decide) rfl rfl) fun b14=>?_
 refine Ya ?_
 refine Z4 (G.seq ?_)
 rw[nats_ints0]
 refine YG ?_
 refine Yy (Zlen un_22) ?_
 refine Zy (subI_i64 (a:=((nB:Nat):Int)) (b:=((1:Nat):Int)) rfl rfl rfl Om) ?_
 refine Yy (y_congr (y_as rfl rfl) (int_eq (show((nB:Nat):Int)-((1:Nat):Int)=((nB:Nat):Int)-1-((0:Nat):Int) from by omega))) ?_
 refine Zn (G.block ?_)
 refine Zo (fun mz ρ l=>∃j:Nat,∃Z:List Int,mz=2*(nB-j)∧(j≤nB)∧(Z.length=xsB.length)∧(∀p,nB-j≤p→p<nB→AtOK xs6 xsB Z p)∧ρ=[(1,Vh 6),(2,.slice qB nB cB),(8,.slice q1 n7 cap5),(10,Vs b14 0 nB nB),(11,.int .i64 (((nB:Nat):Int)-1-((j:Nat):Int)))]∧l=[⟨b14,0,(ints .i64 Z),none⟩,⟨b2,o3,cs4,none⟩]) ⟨0,(List.replicate nB 0),rfl,Om,(by rw[List.length_replicate,hlB]),(fun p h1 h2=>Om),rfl,rfl⟩ ?_
 rintro _ _ _ ⟨j,Z,rfl,hj,hZl,hZ,rfl,rfl⟩
 refine Y6 ?_
 refine Yy (y_ge (a:=(((nB:Nat):Int)-1-((j:Nat):Int))) (b:=((0:Nat):Int)) rfl rfl rfl) ?_
 refine Zn ?_
 refine Zc (fun h15=>?_) (fun h15=>?_)
 refine Z7 (G.seq (G.block (Z5 (Za 1 ?_))))
 refine Yy (y_congr (y_mv rfl rfl) (int_eq (show((nB:Nat):Int)-1-((j:Nat):Int)=((nB-1-j:Nat):Int) from by omega))) ?_
 refine Yy (Zx (nB-1-j) (nB-1-j) se_25) ?_
 refine Ys (e_st 0 (nB-1-j) rfl rfl rfl rfl sz_3 rfl (Nat.zero_add _).symm Oz rfl (ints_set _ _ _ _)) ?_
 refine Y3 ?_
 refine Yy (Zlen un_61) ?_
 refine Zn ?_
 refine G.meetK (fun ρ l=>∃Z2:List Int,(Z2.length=xsB.length)∧(∀p,p≠(nB-1-j)→Z2.getD p 0=Z.getD p 0)∧(Z2.getD (nB-1-j) 0<0∨AtOK xs6 xsB Z2 (nB-1-j))∧ρ=[(1,Vh 6),(2,.slice qB nB cB),(8,.slice q1 n7 cap5),(10,Vs b14 0 nB nB),(11,.int .i64 (((nB:Nat):Int)-1-((j:Nat):Int))),(44,.slice q1 n7 cap5),(45,Vh n7)]∧l=[⟨b14,0,(ints .i64 Z2),none⟩,⟨b2,o3,cs4,none⟩]) ?_ ?_
 refine G.block ?_
 refine Zo (fun mz ρ l=>∃k:Nat,mz=64-k∧(k≤64)∧ρ=[(1,Vh 6),(2,.slice qB nB cB),(8,.slice q1 n7 cap5),(10,Vs b14 0 nB nB),(11,.int .i64 (((nB:Nat):Int)-1-((j:Nat):Int))),(44,.slice q1 n7 cap5),(45,Vh n7),(46,Vh k)]∧l=[⟨b14,0,(ints .i64 (Z.set (nB-1-j) (-1))),none⟩,⟨b2,o3,cs4,none⟩]) ⟨0,rfl,Om,rfl,rfl⟩ ?_
 rintro _ _ _ ⟨k,rfl,hk,rfl,rfl⟩
 refine Y5 ?_
 refine Yy (Zlt k n7) ?_
 refine Z4 ?_
 refine Zc (fun h16=>?_) (fun h16=>?_)
 refine Z7 (G.seq (G.block (G.seq ?_)))
 have hk9:(xs6.getD k (0,0,0)).1<xsA.length∧(xs6.getD k (0,0,0)).2.1≤6∧(xs6.getD k (0,0,0)).2.2+2^(xs6.getD k (0,0,0)).2.1≤64:=(by have h9:=tableF_cell hC (u:=k) Om;rw[←hT] at h9;exact h9)
 have hpw:=Nat.pow_pos (n:=(xs6.getD k (0,0,0)).2.1) (show 0<2 by decide)
 refine YG ?_
 refine Yy (y_ixG (q':=o3+(k*3)) (m:=k) rfl rfl rfl se_61 Om (hg8.some' Om) Om) ?_
 refine Yr (r_lda (vs:=f3 (xs6.getD k (0,0,0))) 1 (k*3) rfl rfl rfl ag_135 sz_135 rfl (preR_get f3_len _ hp10 (by first|assumption|omega) Om) rfl) ?_
 refine Ze (Zal zc_135) fun b17=>?_
 refine Ya ?_
 refine Ys (Zsw 0 sz_135) ?_
 refine Z4 (G.seq ?_)
 have hbi:=hbB.at_ (nB-1-j)
 refine Zg 0 [y_0,r_1,y_2,y_3,y_4,r_5,y_6,y_7] ?_
 refine Ypy (Zf fo_135_0) ?_
 refine Zpr (Zl 0 0 ag_3) ?_
 refine Zpa 1 ?_
 refine Ypy (y_congr (y_mv rfl rfl) (int_eq (show((nB:Nat):Int)-1-((j:Nat):Int)=((nB-1-j:Nat):Int) from by omega))) ?_
 refine Ypy (y_ixG (q':=sB.o+(jB+(nB-1-j))) (m:=nB-1-j) rfl rfl rfl se_22 Om (hB.ad Om) Om) ?_
 refine Ypr (Zkc 1 (jB+(nB-1-j)) ag_5 rfl (hB.getN Om)) ?_
 refine Ypy (ZcvNh (xsB.getD (nB-1-j) 0) un_5 un_3) ?_
 refine Ypy (Zne ((xs6.getD k (0,0,0)).1) (xsB.getD (nB-1-j) 0)) ?_
 refine GP.nil (GQ.thenN ?_)
 refine Zc (fun h18=>?_) (fun h18=>?_)
 refine G.exit (GQ.thenE (GQ.blockE (GQ.thenN (YG ?_))))
 refine Yy (ZaddNh k 1) ?_
 refine GL.nil ?_
 refine GQ.pick [1,1] rfl ?_
 exact Zb ⟨(k+1),rfl,Om,rfl,rfl⟩
 refine Z7 (G.seq ?_)
 refine Zg 0 [y_0,y_1,y_2,y_3,y_4,y_5,y_6,y_7,y_8,y_9,r_10,y_11,r_12,y_13,y_14,y_15,y_16,y_17,y_18,y_19,r_20,y_21,r_22,y_23,r_24,y_25,y_26,y_27,y_28,y_29] ?_
 refine Ypy (y_congr (y_mv rfl rfl) (int_eq (show((nB:Nat):Int)-1-((j:Nat):Int)=((nB-1-j:Nat):Int) from by omega))) ?_
 refine Ypy (ZaddNh (nB-1-j) 2) ?_
 refine Ypy (Zlen un_22) ?_
 refine Zpy (Zlt ((nB-1-j)+2) nB) ?_
 refine Zpa 1 ?_
 refine GP.split (t:=64) (p:=(((nB-1-j)+2:Nat):Int)<((nB:Nat):Int)) rfl (fun h19=>?_) (fun h19=>?_)
 refine Zpa 1 ?_
 refine Ypy (y_congr (y_mv rfl rfl) (int_eq (show((nB:Nat):Int)-1-((j:Nat):Int)=((nB-1-j:Nat):Int) from by omega))) ?_
 refine Ypy (ZaddNh (nB-1-j) 2) ?_
 refine Ypy (Zx ((nB-1-j)+2) ((nB-1-j)+2) se_25) ?_
 refine Ypr (r_ld 1 ((nB-1-j)+2) rfl rfl rfl ag_3 (Nat.zero_add _).symm (ints_get_set Om Om)) ?_
 refine Ypy (Zf fo_135_2) ?_
 refine Ypr (Zl 0 2 ag_3) ?_
 refine Zpy (y_ge (a:=(Z.getD ((nB-1-j)+2) 0)) (b:=(((xs6.getD k (0,0,0)).2.2:Nat):Int)) rfl rfl rfl) ?_
 refine Zpa 2 ?_
 refine GP.split (t:=74) (p:=(((xs6.getD k (0,0,0)).2.2:Nat):Int)≤(Z.getD ((nB-1-j)+2) 0)) rfl (fun h20=>?_) (fun h20=>?_)
 refine Zpa 1 ?_
 refine Ypy (y_congr (y_mv rfl rfl) (int_eq (show((nB:Nat):Int)-1-((j:Nat):Int)=((nB-1-j:Nat):Int) from by omega))) ?_
 refine Ypy (ZaddNh (nB-1-j) 2) ?_
 refine Ypy (Zx ((nB-1-j)+2) ((nB-1-j)+2) se_25) ?_
 refine Ypr (r_ld 1 ((nB-1-j)+2) rfl rfl rfl ag_3 (Nat.zero_add _).symm (ints_get_set Om Om)) ?_
 refine Ypy (Zf fo_135_2) ?_
 refine Ypr (Zl 0 2 ag_3) ?_
 refine Ypy (Zf fo_135_1) ?_
 refine Ypr (Zl 0 1 ag_3) ?_
 refine Ypy (Zq (2^(xs6.getD k (0,0,0)).2.1) (ZshlNh 1 ((xs6.getD k (0,0,0)).2.1)) (Nat.one_mul _)) ?_
 refine Ypy (ZaddNh ((xs6.getD k (0,0,0)).2.2) (2^(xs6.getD k (0,0,0)).2.1)) ?_
 refine Ypy (y_lt (a:=(Z.getD ((nB-1-j)+2) 0)) (b:=((((xs6.getD k (0,0,0)).2.2)+(2^(xs6.getD k (0,0,0)).2.1):Nat):Int)) rfl rfl rfl) ?_
 refine GP.nil (GQ.thenN (Z5 (Za 2 ?_)))
 refine GL.split (t:=89) (p:=(Z.getD ((nB-1-j)+2) 0)<((((xs6.getD k (0,0,0)).2.2)+(2^(xs6.getD k (0,0,0)).2.1):Nat):Int)) rfl (fun h21=>?_) (fun h21=>?_)
 refine Ya ?_
 refine Zn (G.condT rfl (Z5 (Za 1 ?_)))
 refine Yy (y_congr (y_mv rfl rfl) (int_eq (show((nB:Nat):Int)-1-((j:Nat):Int)=((nB-1-j:Nat):Int) from by omega))) ?_
 refine Yy (Zx (nB-1-j) (nB-1-j) se_25) ?_
 refine Ys (e_st 1 (nB-1-j) rfl rfl rfl rfl sz_3 rfl (Nat.zero_add _).symm Oz rfl (ints_set _ _ _ _)) ?_
 refine Zn (G.exit (GQ.blockO rfl (GQ.thenE (GQ.thenE (GQ.blockE ?_)))))
 refine GQ.pick [1,1] rfl ?_
 exact Zm ⟨((Z.set (nB-1-j) (-1)).set (nB-1-j) (k:Nat)),Oz,(fun p hp=>by rw[set_other hp,set_other hp]),(.inr (AtOK.put Om Om Om (fun h2=>Om))),rfl,rfl⟩
 refine Yy (y_congr (y_mv rfl rfl) (int_eq (show((nB:Nat):Int)-1-((j:Nat):Int)=((nB-1-j:Nat):Int) from by omega))) ?_
 refine Yy (ZaddNh (nB-1-j) 2) ?_
 refine Yy (Zlen un_22) ?_
 refine Yy (Zge ((nB-1-j)+2) nB) ?_
 refine Zn ?_
 refine Zc (fun h22=>?_) (fun h22=>?_)
 refine Z5 (Za 1 ?_)
 refine Yy (y_congr (y_mv rfl rfl) (int_eq (show((nB:Nat):Int)-1-((j:Nat):Int)=((nB-1-j:Nat):Int) from by omega))) ?_
 refine Yy (Zx (nB-1-j) (nB-1-j) se_25) ?_
 refine Ys (e_st 1 (nB-1-j) rfl rfl rfl rfl sz_3 rfl (Nat.zero_add _).symm Oz rfl (ints_set _ _ _ _)) ?_
 refine Zn (G.exit (GQ.blockO rfl (GQ.thenE (GQ.thenE (GQ.blockE ?_)))))
 refine GQ.pick [1,1] rfl ?_
 exact Zm ⟨((Z.set (nB-1-j) (-1)).set (nB-1-j) (k:Nat)),Oz,(fun p hp=>by rw[set_other hp,set_other hp]),(.inr (AtOK.put Om Om Om (fun h2=>Om))),rfl,rfl⟩
 refine G.skip (GQ.blockN (GQ.thenN (YG ?_)))
 refine Yy (ZaddNh k 1) ?_
 refine GL.nil ?_
 refine GQ.pick [1,1] rfl ?_
 exact Zb ⟨(k+1),rfl,Om,rfl,rfl⟩
 refine Zpa 4 ?_
 refine GP.skipr rfl rfl rfl rfl ?_
 refine Zpa 1 ?_
 refine GP.skipr rfl rfl rfl rfl ?_
 refine Zpa 1 ?_
 refine GP.skipr rfl rfl rfl rfl ?_
 refine Ypa ?_
 refine GP.nil (GQ.thenN (Z5 (Za 2 ?_)))
 refine Yy (y_congr (y_mv rfl rfl) (int_eq (show((nB:Nat):Int)-1-((j:Nat):Int)=((nB-1-j:Nat):Int) from by omega))) ?_
 refine Yy (ZaddNh (nB-1-j) 2) ?_
 refine Yy (Zlen un_22) ?_
 refine Yy (Zge ((nB-1-j)+2) nB) ?_
 refine Zn ?_
 refine Zc (fun h23=>?_) (fun h23=>?_)
 refine Z5 (Za 1 ?_)
 refine Yy (y_congr (y_mv rfl rfl) (int_eq (show((nB:Nat):Int)-1-((j:Nat):Int)=((nB-1-j:Nat):Int) from by omega))) ?_
 refine Yy (Zx (nB-1-j) (nB-1-j) se_25) ?_
 refine Ys (e_st 1 (nB-1-j) rfl rfl rfl rfl sz_3 rfl (Nat.zero_add _).symm Oz rfl (ints_set _ _ _ _)) ?_
 refine Zn (G.exit (GQ.blockO rfl (GQ.thenE (GQ.thenE (GQ.blockE ?_)))))
 refine GQ.pick [1,1] rfl ?_
 exact Zm ⟨((Z.set (nB-1-j) (-1)).set (nB-1-j) (k:Nat)),Oz,(fun p hp=>by rw[set_other hp,set_other hp]),(.inr (AtOK.put Om Om Om (fun h2=>Om))),rfl,rfl⟩
 refine G.skip (GQ.blockN (GQ.thenN (YG ?_)))
 refine Yy (ZaddNh k 1) ?_
 refine GL.nil ?_
 refine GQ.pick [1,1] rfl ?_
 exact Zb ⟨(k+1),rfl,Om,rfl,rfl⟩
 refine Zpa 4 ?_
 refine GP.skipr rfl rfl rfl rfl ?_
 refine Zpa 1 ?_
 refine GP.skipr rfl rfl rfl rfl ?_
 refine Zpa 7 ?_
 refine GP.skipr rfl rfl rfl rfl ?_
 refine Zpa 1 ?_
 refine GP.skipr rfl rfl rfl rfl ?_
 refine Zpa 1 ?_
 refine GP.skipr rfl rfl rfl rfl ?_
 refine Ypa ?_
 refine GP.nil (GQ.thenN (Z5 (Za 2 ?_)))
 refine Yy (y_congr (y_mv rfl rfl) (int_eq (show((nB:Nat):Int)-1-((j:Nat):Int)=((nB-1-j:Nat):Int) from by omega))) ?_
 refine Yy (ZaddNh (nB-1-j) 2) ?_
 refine Yy (Zlen un_22) ?_
 refine Yy (Zge ((nB-1-j)+2) nB) ?_
 refine Zn ?_
 refine Zc (fun h24=>?_) (fun h24=>?_)
 refine Z5 (Za 1 ?_)
 refine Yy (y_congr (y_mv rfl rfl) (int_eq (show((nB:Nat):Int)-1-((j:Nat):Int)=((nB-1-j:Nat):Int) from by omega))) ?_
 refine Yy (Zx (nB-1-j) (nB-1-j) se_25) ?_
 refine Ys (e_st 1 (nB-1-j) rfl rfl rfl rfl sz_3 rfl (Nat.zero_add _).symm Oz rfl (ints_set _ _ _ _)) ?_
 refine Zn (G.exit (GQ.blockO rfl (GQ.thenE (GQ.thenE (GQ.blockE ?_)))))
 refine GQ.pick [1,1] rfl ?_
 exact Zm ⟨((Z.set (nB-1-j) (-1)).set (nB-1-j) (k:Nat)),Oz,(fun p hp=>by rw[set_other hp,set_other hp]),(.inr (AtOK.put Om Om Om (fun h2=>Om))),rfl,rfl⟩
 refine G.skip (GQ.blockN (GQ.thenN (YG ?_)))
 refine Yy (ZaddNh k 1) ?_
 refine GL.nil ?_
 refine GQ.pick [1,1] rfl ?_
 exact Zb ⟨(k+1),rfl,Om,rfl,rfl⟩
 refine G.exit (GQ.thenE (GQ.thenE (GQ.blockE ?_)))
 exact Zm ⟨(Z.set (nB-1-j) (-1)),Oz,(fun p hp=>set_other hp),(.inl (by rw[set_getD Om,if_pos rfl];decide)),rfl,rfl⟩
 rintro _ _ ⟨Z2,hZ2l,hZ2,hZ3,rfl,rfl⟩
 refine GQ.thenN (Z5 (Za 1 ?_))
 refine Yy (y_congr (y_mv rfl rfl) (int_eq (show((nB:Nat):Int)-1-((j:Nat):Int)=((nB-1-j:Nat):Int) from by omega))) ?_
 refine Yy (Zx (nB-1-j) (nB-1-j) se_25) ?_
 refine Yr (r_ld 0 (nB-1-j) rfl rfl rfl ag_3 (Nat.zero_add _).symm (ints_get Om)) ?_
 refine Yy (y_lt (a:=(Z2.getD (nB-1-j) 0)) (b:=((0:Nat):Int)) rfl rfl rfl) ?_
 refine Zn ?_
 refine Zc (fun hneg=>?_) (fun hneg=>?_)
 refine Y5 ?_
 refine Zn (G.ret ?_)
 refine GQ.addE ?_
 repeat first|refine ZR ?_|refine ZB ?_
 exact ret2 [0] rfl rfl rfl rfl AppB.no
 refine G.skip (GQ.blockN (GQ.thenN (YG ?_)))
 refine Zy (subI_i64 (a:=((nB:Nat):Int)-1-((j:Nat):Int)) (b:=((1:Nat):Int)) rfl rfl rfl Om) ?_
 refine Yy (y_congr (y_as rfl rfl) (int_eq (show(((nB:Nat):Int)-1-((j:Nat):Int))-((1:Nat):Int)=((nB:Nat):Int)-1-((j+1:Nat):Int) from by omega))) ?_
 refine GL.nil ?_
 exact Zb ⟨(j+1),Z2,rfl,Om,hZ2l,(fun p h1 h2=>AtOK.next hZ2 (fun q h3 h4=>hZ q Om h4) (hZ3.resolve_left Om) p Om h2),rfl,rfl⟩
 refine G.exit (GQ.thenE (GQ.thenE (GQ.blockE (GQ.thenN (G.seq ?_)))))
 have hF:=FseT.ofAt hZl Om (fun p hp=>hZ p Om Om)
 have e9:ints .i64 Z=nats .i64 (Z.map Int.toNat):=ints_toNat (fun p hp=>(hZ p Om Om).nn)
 obtain⟨A9,hA9⟩:∃A,A=Z.map Int.toNat:=⟨_,rfl⟩
 rw[←hA9] at hF e9
 have hAl:=hF.len
 refine G.lists (l':=[⟨b14,0,(ints .i64 Z),none⟩,⟨b2,o3,cs4,none⟩]) rfl ?_
 rw[e9]
 have ha0:A9.getD 0 0<64:=hF.at_ 0
 have ha1:A9.getD 1 0<64:=hF.at_ 1
 refine YG ?_
 refine Yy (Zx 0 0 se_25) ?_
 refine Zr (Zlc 0 0 ag_3 rfl (nats_get Oy)) ?_
 refine Za 1 ?_
 refine GL.addE ?_
 refine Zcp [0] [] (c_number none 0 0 [] 0 [] 0 ⟨rfl,.inr ⟨rfl,rfl⟩⟩ (Nat.le_refl _) rfl rfl (A9.getD 0 0) 6 Om Om Om) rfl ?_
 rintro _ _ ⟨q25,b26,o27,cs28,cap29,rfl,hg30,hc31,hp32,hl33,rfl⟩
 refine Ya ?_
 refine Y2 ?_
 refine Yy (Zx 1 1 se_25) ?_
 refine Yr (Zlc 1 1 ag_3 rfl (nats_get Oy)) ?_
 refine Zcp [0] [] (c_number q25 b26 o27 cs28 cap29 ([]++highB (A9.getD 0 0) 6) (0+6) hg30 hc31 hp32 (by first|rfl|assumption|(simp;omega)|simp_all) (A9.getD 1 0) 6 Om Om Om) rfl ?_
 rintro _ _ ⟨q34,b35,o36,cs37,cap38,rfl,hg39,hc40,hp41,hl42,rfl⟩
 refine Ya ?_
 refine Y3 ?_
 refine Zn (G.block ?_)
 refine Zo (fun mz ρ l=>∃i:Nat,∃qp:Option Addr,∃bp op:Nat,∃csp:List Value,∃capp:Nat,∃P:List Nat,∃m:Nat,mz=nB-i∧(GS qp bp op csp 1 capp)∧(m≤capp)∧(csp.take m=nats .i64 P)∧(P.length=m)∧(m≤12+6*i∧i≤nB)∧(Bits P)∧(bitsV P*2^fN xs6 (A9.drop i)+fR xs6 (A9.drop i)=(A9.getD 0 0*2^6+A9.getD 1 0)*2^fN xs6 A9+fR xs6 A9)∧(m+fN xs6 (A9.drop i)=12+fN xs6 A9)∧ρ=[(2,.slice qB nB cB),(8,.slice q1 n7 cap5),(10,Vs b14 0 nB nB),(15,.slice qp m capp),(16,Vh i)]∧l=[⟨bp,op,csp,none⟩,⟨b14,0,(nats .i64 A9),none⟩,⟨b2,o3,cs4,none⟩]) ⟨0,q34,b35,o36,cs37,cap38,(([]++highB (A9.getD 0 0) 6)++highB (A9.getD 1 0) 6),((0+6)+6),rfl,hg39,hc40,hp41,Ow,⟨Om,Om⟩,(Bits.app (Bits.app (fun x hx=>by cases hx) (highB_bits _ _)) (highB_bits _ _)),(num_begin ha0 ha1),(by rw[List.drop_zero]),rfl,rfl⟩ ?_ (hs:=rfl)
 rintro _ _ _ ⟨i,qp,bp,op,csp,capp,P,m,rfl,hgp,hcp,hpp,hlp,hi,hPb,hV,hm,rfl,rfl⟩
 refine Y6 ?_
 refine Yy (ZaddNh i 2) ?_
 refine Yy (Zlen un_22) ?_
 refine Yy (Zlt (i+2) nB) ?_
 refine Zn ?_
 refine Zc (fun h43=>?_) (fun h43=>?_)
 refine Z7 (G.seq (G.block (G.seq ?_)))
 have hai:A9.getD i 0<64:=hF.at_ i
 have hst:=hF.step i Om
 have hai2:A9.getD (i+2) 0<64:=hF.at_ (i+2)
 have hcb:(xs6.getD (A9.getD i 0) (0,0,0)).2.1≤6:=by have h9:=(tableF_cell hC hai).2.1;rwa [←hT] at h9
 refine YG ?_
 refine Yy (Zx i i se_25) ?_
 refine Yr (r_ld 1 i rfl rfl rfl ag_3 (Nat.zero_add _).symm (nats_get Oy)) ?_
 refine Yy (y_ixG (q':=o3+((A9.getD i 0)*3)) (m:=A9.getD i 0) rfl rfl rfl se_61 Om (hg8.some' Om) Om) ?_
 refine Yr (r_lda (vs:=f3 (xs6.getD (A9.getD i 0) (0,0,0))) 2 ((A9.getD i 0)*3) rfl rfl rfl ag_135 sz_135 rfl (preR_get f3_len _ hp10 (by first|assumption|omega) Om) rfl) ?_
 refine Ze (Zal zc_135) fun b44=>?_
 refine Ys (Zsw 0 sz_135) ?_
 refine Zn ?_
 refine Zg 2048 [y_0,y_1,y_2,y_3,y_4,r_5,y_6,r_7,y_8,y_9,r_10,e_11,y_12] ?_
 refine Ypa ?_
 refine Ypy (ZaddNh i 2) ?_
 refine Ypy (Zx (i+2) (i+2) se_25) ?_
 refine Ypr (r_ld 2 (i+2) rfl rfl rfl ag_3 (Nat.zero_add _).symm (nats_get Oy)) ?_
 refine Ypy (Zf fo_135_2) ?_
 refine Ypr (Zl 0 2 ag_3) ?_
 refine Ypy (ZsubNh (A9.getD (i+2) 0) ((xs6.getD (A9.getD i 0) (0,0,0)).2.2)) ?_
 refine Ypy (Zf fo_135_1) ?_
 refine Ypr (Zl 0 1 ag_3) ?_
 refine Zpcp [1] [] (c_number qp bp op csp capp P m hgp hcp hpp (by first|rfl|assumption|(simp;omega)|simp_all) ((A9.getD (i+2) 0)-((xs6.getD (A9.getD i 0) (0,0,0)).2.2)) ((xs6.getD (A9.getD i 0) (0,0,0)).2.1) Om Om Om) rfl ?_
 rintro _ _ ⟨q45,b46,o47,cs48,cap49,rfl,hg50,hc51,hp52,hl53,rfl⟩
 refine Ypa ?_
 refine GP.nil (GQ.blockN (GQ.thenN (YG ?_)))
 refine Yy (ZaddNh i 1) ?_
 refine GL.nil ?_
 refine GQ.pick [0,1,1] rfl ?_
 exact Zb ⟨(i+1),q45,b46,o47,cs48,cap49,(P++highB ((A9.getD (i+2) 0)-((xs6.getD (A9.getD i 0) (0,0,0)).2.2)) ((xs6.getD (A9.getD i 0) (0,0,0)).2.1)),(m+((xs6.getD (A9.getD i 0) (0,0,0)).2.1)),rfl,hg50,hc51,hp52,Ow,⟨Om,Om⟩,(Bits.app hPb (highB_bits _ _)),(num_step hF Om hV),(num_len hF Om hm),rfl,rfl⟩ (hs:=rfl)
 refine G.exit (GQ.thenE (GQ.thenE (GQ.blockE (GQ.thenN (Y5 ?_)))))
 refine Zcp [] [0] (c_packed (⟨bp,op,csp,none⟩) qp m capp 0 P (Rd.ofGN hgp hcp hpp) Oa Om) rfl ?_
 rintro _ _ ⟨q54,b55,o56,cs57,cap58,xs59,n60,rfl,hg61,hc62,hp63,hl64,⟨hBx,hLx,hVx⟩,rfl⟩
 refine Ya ?_
 refine Zn (G.ret ?_)
 repeat first|refine ZR ?_|refine ZB ?_
 exact ret2 [0] rfl rfl rfl rfl (AppB.mk hg61 hc62 hp63 hl64 (FsePacked.mk' (hT▸hF) Om (hT▸hV) (hT▸hm) hBx hLx hVx))
theorem c_FseBlock (sA:Seg) (qA:Option Addr) (nA cA jA:Nat) (xsA:List Nat) (hA:Rd qA nA 1 (nats .i64 xsA) sA jA)  (sB:Seg) (qB:Option Addr) (nB cB jB:Nat) (xsB:List Nat) (hB:Rd qB nB 1 (nats .u8 xsB) sB jB) (hz:nA≤256) (ha:AllLe xsA 63) (hzB:nB≤256) (hbB:Bytes xsB):Con Tryz.prog 26 [.slice qA nA cA,Vh 6,.slice qB nB cB] [] [sA,sB] (AppB .u8 (FseBlk xsA xsB)):=by
 refine Zi Tryz.func26 rfl fun w0=>?_
 refine G.seq ?_
 have hlA:=hA.lenN
 have hlB:=hB.lenN
 refine YG ?_
 refine Y2 ?_
 refine Zcp [] [0] (c_FseWrite sA qA nA cA jA xsA hA Om Oa) rfl ?_
 rintro _ _ ⟨ok13,q1,b2,o3,cs4,cap5,xs6,n7,rfl,hg8,hc9,hp10,hl11,hx12,rfl⟩
 refine Ya ?_
 refine Y3 ?_
 refine Yy (y_notB rfl rfl) ?_
 refine Zn ?_
 refine G.cond rfl (fun hn1=>?_) (fun hn1=>?_)
 refine Y5 ?_
 refine Zn (G.ret ?_)
 refine GQ.addE ?_
 repeat first|refine ZR ?_|refine ZB ?_
 exact ret2 [0] rfl rfl rfl rfl AppB.no
 have hok1:ok13=true:=by simpa using hn1
 have hH:=hx12 hok1
 have hC:=hH.counts Om ha
 refine Y8 ?_
 refine Zcp [] [1,2] (c_FseText sA qA nA cA jA xsA hA sB qB nB cB jB xsB hB Oa Om Oa) rfl ?_
 rintro _ _ ⟨ok26,q14,b15,o16,cs17,cap18,xs19,n20,rfl,hg21,hc22,hp23,hl24,hx25,rfl⟩
 refine Ya ?_
 refine Y3 ?_
 refine Yy (y_notB rfl rfl) ?_
 refine Zn ?_
 refine G.cond rfl (fun hn2=>?_) (fun hn2=>?_)
 refine Y5 ?_
 refine Zn (G.ret ?_)
 refine GQ.addE ?_
 repeat first|refine ZR ?_|refine ZB ?_
 exact ret2 [0] rfl rfl rfl rfl AppB.no
 have hok2:ok26=true:=by simpa using hn2
 have hB2:=hx25 hok2
 refine Y8 ?_
 obtain⟨E,hE1,hE2,hE3,hE4,hE5⟩:=hH.ex
 obtain⟨A,hA1,hA2,hA3,hA4⟩:=hB2.ex
 have hfn:=fN_le hC hA1
 refine GL.eff (e_appN (k:=.u8) (n:=n7) (m:=n20) (xs:=xs6) (ys:=xs19) 1 rfl rfl rfl rfl el_22 rfl rfl hg8 hp10 (Src.ofRd 0 rfl (Rd.ofGN hg21 hc22 hp23)) Oq rfl rfl) rfl ?_
 rintro _ _ ⟨q27,b28,o29,cs30,cap31,hg32,hc33,ht34,rfl,rfl⟩
 refine Ya ?_
 refine Zn (G.ret ?_)
 repeat first|refine ZR ?_|refine ZB ?_
 exact ret2 [1] rfl rfl rfl rfl (AppB.mk hg32 hc33 ht34 (by rw[List.length_append];omega) ⟨hC,_,_,rfl,hH,hB2⟩)
theorem c_pressedWeights (sA:Seg) (qA:Option Addr) (nA cA jA:Nat) (xsA:List Nat) (hA:Rd qA nA 1 (nats .u8 xsA) sA jA) (hz:nA≤255) (ha:AllLe xsA 12):Con Tryz.prog 14 [.slice qA nA cA] [] [sA] (AppB .u8 (PressB xsA)):=by
 refine Zi Tryz.func14 rfl fun w0=>?_
 refine G.seq ?_
 have hlA:=hA.lenN
 refine YG ?_
 refine Y2 ?_
 refine Ze (e_mkN (m:=13) (c:=13) rfl rfl rfl el_25 (by first|omega|decide) rfl rfl) fun b1=>?_
 refine Ya ?_
 refine Y3 ?_
 refine Yy (Zlen un_22) ?_
 refine Zn (G.block ?_)
 refine Zo (fun mz ρ l=>∃i:Nat,∃C:List Nat,mz=nA-i∧(i≤nA)∧(C.length=13)∧(AllLe C i)∧ρ=[(0,.slice qA nA cA),(2,.slice none 0 0),(3,.bool false),(4,Vs b1 0 13 13),(14,.slice qA nA cA),(15,Vh nA),(16,Vh i)]∧l=[⟨b1,0,(nats .i64 C),none⟩]) ⟨0,(List.replicate 13 0),rfl,Om,Oi,(AllLe.rep0 _ _),rfl,rfl⟩ ?_ (hs:=rfl)
 rintro _ _ _ ⟨i,C,rfl,hi,hCl,hCi,rfl,rfl⟩
 refine Y5 ?_
 refine Yy (Zlt i nA) ?_
 refine Z4 ?_
 refine Zc (fun h2=>?_) (fun h2=>?_)
 refine Z7 (G.seq (G.block (Y5 ?_)))
 refine Yy (y_ixG (q':=sA.o+(jA+i)) (m:=i) rfl rfl rfl se_22 Om (hA.ad Om) Om) ?_
 refine Yr (Zkc 0 (jA+i) ag_5 rfl (hA.getN Om)) ?_
 refine Zn ?_
 have hx:=ha.at_ i
 have hcx:=hCi.at_ (xsA.getD i 0)
 refine YG ?_
 refine Yy (Zx (xsA.getD i 0) (xsA.getD i 0) se_25) ?_
 refine Yr (r_ld 0 (xsA.getD i 0) rfl rfl rfl ag_3 (Nat.zero_add _).symm (nats_get Oy)) ?_
 refine Yy (ZaddNh (C.getD (xsA.getD i 0) 0) 1) ?_
 refine Yy (Zx (xsA.getD i 0) (xsA.getD i 0) se_25) ?_
 refine Ys (Zsu 0 (xsA.getD i 0) sz_3) ?_
 refine GL.nil (GQ.blockN (GQ.thenN (YG ?_)))
 refine Yy (ZaddNh i 1) ?_
 refine GL.nil ?_
 exact Zb ⟨(i+1),(C.set (xsA.getD i 0) ((C.getD (xsA.getD i 0) 0)+1)),rfl,Om,(by rw[List.length_set];exact hCl),(cnt_step hCi),rfl,rfl⟩
 refine G.exit (GQ.thenE (GQ.thenE (GQ.blockE (GQ.thenN (Y5 ?_)))))
 refine Y3 ?_
 refine Yy (Zlen un_25) ?_
 refine Zn (G.block ?_)
 refine Zo (fun mz ρ l=>∃i:Nat,∃lf:Int,∃q:Nat,∃C:List Nat,mz=13-i∧(i≤13∧q<13∧lf≤64∧64-40*(i:Int)≤lf)∧(C.length=13)∧(∀p,p<i→C.getD p 0≤40)∧(∀p,i≤p→C.getD p 0≤nA)∧ρ=[(0,.slice qA nA cA),(2,.slice none 0 0),(3,.bool false),(4,Vs b1 0 13 13),(7,.int .i64 (lf)),(8,Vh q),(27,Vs b1 0 13 13),(28,Vh 13),(29,Vh i)]∧l=[⟨b1,0,(nats .i64 C),none⟩]) ⟨0,((64:Nat):Int),0,C,rfl,⟨Om,Om,Om,Om⟩,hCl,(fun p hp=>Om),(fun p _=>Nat.le_trans (hCi.at_ p) hi),rfl,rfl⟩ ?_ (hs:=rfl)
 rintro _ _ _ ⟨i,lf,q,C,rfl,hi,hCl,hlo,hhi,rfl,rfl⟩
 refine Y5 ?_
 refine Yy (Zlt i 13) ?_
 refine Z4 ?_
 refine Zc (fun h3=>?_) (fun h3=>?_)
 refine Z7 (G.seq (G.block (G.seq ?_)))
 have hn9:=hhi i (Nat.le_refl _)
 refine YG ?_
 refine Yy (Zx i i se_25) ?_
 refine Yr (r_ld 0 i rfl rfl rfl ag_3 (Nat.zero_add _).symm (nats_get Oy)) ?_
 refine Y3 ?_
 refine Yy (Zgt (C.getD i 0) 0) ?_
 refine Zn ?_
 refine G.meetK (fun ρ l=>∃C2:List Nat,(C2.length=13)∧(∀p,p<i+1→C2.getD p 0≤40)∧(∀p,i+1≤p→C2.getD p 0≤nA)∧ρ=[(0,.slice qA nA cA),(2,.slice none 0 0),(3,.bool false),(4,Vs b1 0 13 13),(7,.int .i64 (lf)),(8,Vh q),(9,Vh i),(10,Vh (C.getD i 0)),(27,Vs b1 0 13 13),(28,Vh 13),(29,Vh i),(35,.bool (decide (((0:Nat):Int)<((C.getD i 0:Nat):Int))))]∧l=[⟨b1,0,(nats .i64 C2),none⟩]) ?_ ?_
 refine Zc (fun h4=>?_) (fun h4=>?_)
 have hs9:=share_le hn9
 refine YG ?_
 refine Yy (ZmulNh (C.getD i 0) 40) ?_
 refine Yy (Zlen un_22) ?_
 refine Yy (ZquoNh ((C.getD i 0)*40) nA) ?_
 refine Yy (y_congr (y_max (X:=((1:Nat):Int)) (Y:=((((C.getD i 0)*40)/nA:Nat):Int)) rfl rfl rfl) (int_eq (show max ((1:Nat):Int) ((((C.getD i 0)*40)/nA:Nat):Int)=((max 1 (((C.getD i 0)*40)/nA):Nat):Int) from by omega))) ?_
 refine Yy (Zx i i se_25) ?_
 refine Ys (Zsu 0 i sz_3) ?_
 refine GL.nil ?_
 exact Zm ⟨(C.set i (max 1 (((C.getD i 0)*40)/nA))),(by rw[List.length_set];exact hCl),(low_step hlo Om),(high_step hhi),rfl,rfl⟩
 refine G.skip ?_
 exact Zm ⟨C,hCl,(low_step0 hlo Om),(fun p hp=>hhi p Om),rfl,rfl⟩
 rintro _ _ ⟨C2,hC2,hlo2,hhi2,rfl,rfl⟩
 refine GQ.thenN (G.seq ?_)
 have hc9:=hlo2 i Om
 refine YG ?_
 refine Yy (Zx i i se_25) ?_
 refine Yr (r_ld 0 i rfl rfl rfl ag_3 (Nat.zero_add _).symm (nats_get Oy)) ?_
 refine Yy (subI_i64 (a:=lf) (b:=((C2.getD i 0:Nat):Int)) rfl rfl rfl Om) ?_
 refine Z4 ?_
 refine Zg 0 [y_0,y_1,y_2,r_3,y_4,y_5,y_6,r_7,y_8] ?_
 refine Ypa ?_
 refine Ypy (Zx i i se_25) ?_
 refine Ypr (r_ld 0 i rfl rfl rfl ag_3 (Nat.zero_add _).symm (nats_get Oy)) ?_
 refine Ypy (Zx q q se_25) ?_
 refine Ypr (r_ld 0 q rfl rfl rfl ag_3 (Nat.zero_add _).symm (nats_get Oy)) ?_
 refine Ypy (Zgt (C2.getD i 0) (C2.getD q 0)) ?_
 refine GP.nil (GQ.thenN ?_)
 refine Zc (fun h5=>?_) (fun h5=>?_)
 refine YG ?_
 refine GL.nil (GQ.blockN (GQ.thenN (YG ?_)))
 refine Yy (ZaddNh i 1) ?_
 refine GL.nil ?_
 exact Zb ⟨(i+1),(lf-((C2.getD i 0:Nat):Int)),i,C2,rfl,⟨Om,Om,Om,Om⟩,hC2,hlo2,hhi2,rfl,rfl⟩
 refine G.skip (GQ.blockN (GQ.thenN (YG ?_)))
 refine Yy (ZaddNh i 1) ?_
 refine GL.nil ?_
 exact Zb ⟨(i+1),(lf-((C2.getD i 0:Nat):Int)),q,C2,rfl,⟨Om,Om,Om,Om⟩,hC2,hlo2,hhi2,rfl,rfl⟩
 refine G.exit (GQ.thenE (GQ.thenE (GQ.blockE (GQ.thenN (G.seq ?_)))))
 obtain⟨z,hz9⟩:∃z:Int,z=((C.getD q 0:Nat):Int)+lf:=⟨_,rfl⟩
 have hcq:=hlo q Om
 refine G.lists (l':=[⟨b1,0,(nats .i64 C),none⟩]) rfl ?_
 rw[nats_ints]
 refine YG ?_
 refine Yy (Zx q q se_25) ?_
 refine Yr (r_ld 0 q rfl rfl rfl ag_3 (Nat.zero_add _).symm (ints_ofNat_get Om)) ?_
 refine Yy (y_congr (addI_i64 (a:=((C.getD q 0:Nat):Int)) (b:=lf) rfl rfl rfl Om) (int_eq (show((C.getD q 0:Nat):Int)+lf=z from hz9.symm))) ?_
 refine Yy (Zx q q se_25) ?_
 refine Ys (e_st 0 q rfl rfl rfl rfl sz_3 rfl (Nat.zero_add _).symm Oz rfl (ints_set _ _ _ _)) ?_
 refine Y3 ?_
 refine Yy (Zx q q se_25) ?_
 refine Yr (r_ld 0 q rfl rfl rfl ag_3 (Nat.zero_add _).symm (ints_put_get Oz)) ?_
 refine Zy (y_lt (a:=z) (b:=((1:Nat):Int)) rfl rfl rfl) ?_
 refine Za 1 ?_
 refine GL.split (t:=74) (p:=z<((1:Nat):Int)) rfl (fun hz1=>?_) (fun hz1=>?_)
 refine Ya ?_
 refine Zn (G.condT rfl (Y5 ?_))
 refine Zn (G.ret ?_)
 refine GQ.addE ?_
 repeat first|refine ZR ?_|refine ZB ?_
 exact ret2 [0] rfl rfl rfl rfl AppB.no
 refine Ya ?_
 refine Yy (Zx q q se_25) ?_
 refine Yr (r_ld 0 q rfl rfl rfl ag_3 (Nat.zero_add _).symm (ints_put_get Oz)) ?_
 refine Yy (y_gt (a:=z) (b:=((63:Nat):Int)) rfl rfl rfl) ?_
 refine Zn ?_
 refine Zc (fun hz2=>?_) (fun hz2=>?_)
 refine Y5 ?_
 refine Zn (G.ret ?_)
 refine GQ.addE ?_
 repeat first|refine ZR ?_|refine ZB ?_
 exact ret2 [0] rfl rfl rfl rfl AppB.no
 refine G.lists (l':=[⟨b1,0,(ints .i64 ((C.map Int.ofNat).set q z)),none⟩]) rfl ?_
 rw[ints_back (show 0≤z by omega)]
 obtain⟨D9,hD9⟩:∃D,D=C.set q z.toNat:=⟨_,rfl⟩
 rw[←hD9]
 have hDl:D9.length=13:=by rw[hD9,List.length_set];exact hCl
 have hDa:AllLe D9 63:=hD9▸fit (low_all hlo Om) Om
 refine Z7 (G.seq ?_)
 have hbA:Bytes xsA:=fun y hy=>by have:=ha y hy;omega
 refine YG ?_
 refine Zcp [] [0,1] (c_FseBlock (⟨b1,0,(nats .i64 D9),none⟩) (some ⟨b1,0,none⟩) 13 13 0 D9 (Rd.ofNats (j:=0) rfl (by rw[List.drop_zero];exact List.take_of_length_le Ou) Ou) sA qA nA cA jA xsA hA Om Oa Om Oa) rfl ?_
 rintro _ _ ⟨ok18,q6,b7,o8,cs9,cap10,xs11,n12,rfl,hg13,hc14,hp15,hl16,hx17,rfl⟩
 refine Ya ?_
 refine Y3 ?_
 refine Zy (y_notB rfl rfl) ?_
 refine Za 1 ?_
 refine GL.splitB (t:=89) (b:= !ok18) rfl (fun hnk=>?_) (fun hnk=>?_)
 refine Ya ?_
 refine Zn (G.condT rfl (Y5 ?_))
 refine Zn (G.ret ?_)
 refine GQ.addE ?_
 repeat first|refine ZR ?_|refine ZB ?_
 exact ret2 [0] rfl rfl rfl rfl AppB.no
 refine Ya ?_
 refine Yy (Zlen un_22) ?_
 refine Yy (Zgt n12 127) ?_
 refine Zn ?_
 refine Zc (fun hlong=>?_) (fun hlong=>?_)
 refine Y5 ?_
 refine Zn (G.ret ?_)
 refine GQ.addE ?_
 repeat first|refine ZR ?_|refine ZB ?_
 exact ret2 [0] rfl rfl rfl rfl AppB.no
 have hok2:ok18=true:=by simpa using hnk
 have hFB:=hx17 hok2
 refine Y8 ?_
 refine Yy (Zlen un_22) ?_
 refine Yy (ZcvNa n12 un_3 un_5) ?_
 refine Ze (e_bs (ps:=[(0,.tmp 96)]) (pv:=[(0,Va n12)]) (vs:=[Va n12]) 1 rfl ⟨rfl,rfl⟩ el_22 Od Ov rfl rfl) fun b19=>?_
 refine Ya ?_
 refine GL.eff (e_appN (k:=.u8) (n:=1) (m:=n12) (xs:=[n12]) (ys:=xs11) 0 rfl rfl rfl rfl el_22 rfl rfl ⟨rfl,.inl rfl⟩ rfl (Src.ofRd 1 rfl (Rd.ofGN hg13 hc14 hp15)) Oq rfl rfl) rfl ?_
 rintro _ _ ⟨q20,b21,o22,cs23,cap24,hg25,hc26,ht27,rfl,rfl⟩
 refine Ya ?_
 refine Zn (G.ret ?_)
 repeat first|refine ZR ?_|refine ZB ?_
 exact ret2 [0] rfl rfl rfl rfl (AppB.mk hg25 hc26 ht27 (by rw[List.length_append,hl16];first|(simp;done)|(simp;omega)) ⟨D9,_,hDl,hDa,hFB,Om,by rw[hl16]⟩)
theorem c_HuffWriteN (sA:Seg) (qA:Option Addr) (nA cA jA:Nat) (xsA:List Nat) (hA:Rd qA nA 1 (nats .i64 xsA) sA jA)  (hz0:nA≤1048576):Con Tryz.prog 7 [.slice qA nA cA,.bool false] [] [sA] (AppB .u8 (TreeN xsA)):=by
 refine Zi Tryz.func7 rfl fun w0=>?_
 refine G.seq ?_
 have hlA:=hA.lenN
 refine YG ?_
 refine Y3 ?_
 refine Zcc [] [0] (c_Whole sA qA nA cA jA xsA hA Om) rfl ?_
 refine Yy (y_not rfl rfl) ?_
 refine Zn ?_
 refine Zc (fun hWh=>?_) (fun hWh=>?_)
 refine Y5 ?_
 refine Zn (G.ret ?_)
 refine GQ.addE ?_
 repeat first|refine ZR ?_|refine ZB ?_
 exact ret2 [0] rfl rfl rfl rfl AppB.no
 have hWh2:WholeL xsA:=Decidable.of_not_not hWh
 have hz:nA≤256:=by rw[←hlA];exact hWh2.1
 refine Y8 ?_
 refine Y3 ?_
 refine Yy (Zlen un_25) ?_
 refine Zn (G.block ?_)
 refine Zo (fun mz ρ l=>∃i L la:Nat,mz=nA-i∧(i≤nA∧L≤11∧la≤i)∧(ML xsA i L la)∧ρ=[(0,.slice qA nA cA),(1,.bool false),(4,.slice none 0 0),(5,.bool false),(6,Vh L),(7,Vh la),(18,.slice qA nA cA),(19,Vh nA),(20,Vh i)]∧l=[]) ⟨0,0,0,rfl,⟨Om,Om,Om⟩,(ML.init _),rfl,rfl⟩ ?_ (hs:=rfl)
 rintro _ _ _ ⟨i,L,la,rfl,hi,hM,rfl,rfl⟩
 refine Y5 ?_
 refine Yy (Zlt i nA) ?_
 refine Z4 ?_
 refine Zc (fun h1=>?_) (fun h1=>?_)
 refine Z7 (G.seq (G.block (Y5 ?_)))
 refine Yy (y_ixG (q':=sA.o+(jA+i)) (m:=i) rfl rfl rfl se_25 Om (hA.ad Om) Om) ?_
 refine Yr (Zkc 0 (jA+i) ag_3 rfl (hA.getN Om)) ?_
 refine Z4 ?_
 have hx11:=hWh2.2.1.at_ i
 refine YG ?_
 refine Yy (y_congr (y_max (X:=((L:Nat):Int)) (Y:=((xsA.getD i 0:Nat):Int)) rfl rfl rfl) (int_eq (show max ((L:Nat):Int) ((xsA.getD i 0:Nat):Int)=((max L (xsA.getD i 0):Nat):Int) from by omega))) ?_
 refine Y2 ?_
 refine Yy (Zgt (xsA.getD i 0) 0) ?_
 refine Zn ?_
 refine Zc (fun hnz=>?_) (fun hnz=>?_)
 refine YG ?_
 refine GL.nil (GQ.blockN (GQ.thenN (YG ?_)))
 refine Yy (ZaddNh i 1) ?_
 refine GL.nil ?_
 exact Zb ⟨(i+1),(max L (xsA.getD i 0)),i,rfl,⟨Om,Om,Om⟩,(ML.s1 hM Om Om),rfl,rfl⟩
 refine G.skip (GQ.blockN (GQ.thenN (YG ?_)))
 refine Yy (ZaddNh i 1) ?_
 refine GL.nil ?_
 exact Zb ⟨(i+1),(max L (xsA.getD i 0)),la,rfl,⟨Om,Om,Om⟩,(ML.s0 hM Om Om),rfl,rfl⟩
 refine G.exit (GQ.thenE (GQ.thenE (GQ.blockE (GQ.thenN (G.seq ?_)))))
 have hML:=hM.done Om hWh2
 have hlt:=hML.lt
 refine YG ?_
 refine Ze (e_mkN (m:=la) (c:=la) rfl rfl rfl el_22 (by first|omega|decide) rfl rfl) fun b2=>?_
 refine Ya ?_
 refine Y3 ?_
 refine Zn (G.block ?_)
 refine Zo (fun mz ρ l=>∃s:Nat,∃X:List Nat,mz=la-s∧(s≤la)∧(X.length=la)∧(∀j,j<s→X.getD j 0=(weightsOf xsA L la).getD j 0)∧(∀j,s≤j→X.getD j 0=0)∧ρ=[(0,.slice qA nA cA),(1,.bool false),(4,.slice none 0 0),(5,.bool false),(6,Vh L),(10,Vs b2 0 la la),(34,Vh la),(35,Vh s)]∧l=[⟨b2,0,(nats .u8 X),none⟩]) ⟨0,(List.replicate la 0),rfl,Om,Oi,(fun j hj=>Om),(fun j _=>getD_rep0 _ _),rfl,rfl⟩ ?_ (hs:=rfl)
 rintro _ _ _ ⟨s,X,rfl,hs,hXl,hX,hXz,rfl,rfl⟩
 refine Y5 ?_
 refine Yy (Zlt s la) ?_
 refine Z4 ?_
 refine Zc (fun h3=>?_) (fun h3=>?_)
 refine Z7 (G.seq (G.block (Y5 ?_)))
 refine Y2 ?_
 refine Yy (y_ixG (q':=sA.o+(jA+s)) (m:=s) rfl rfl rfl se_25 Om (hA.ad Om) Om) ?_
 refine Yr (Zkc 0 (jA+s) ag_3 rfl (hA.getN Om)) ?_
 refine Yy (Zgt (xsA.getD s 0) 0) ?_
 refine Zn ?_
 refine Zc (fun h4=>?_) (fun h4=>?_)
 have hx11:=hML.le.at_ s
 refine YG ?_
 refine Yy (ZaddNh L 1) ?_
 refine Yy (y_ixG (q':=sA.o+(jA+s)) (m:=s) rfl rfl rfl se_25 Om (hA.ad Om) Om) ?_
 refine Yr (Zkc 0 (jA+s) ag_3 rfl (hA.getN Om)) ?_
 refine Yy (ZsubNh (L+1) (xsA.getD s 0)) ?_
 refine Yy (ZcvNa ((L+1)-(xsA.getD s 0)) un_3 un_5) ?_
 refine Yy (Zx s s se_22) ?_
 refine Ys (Zsu 0 s sz_5) ?_
 refine GL.nil (GQ.blockN (GQ.thenN (YG ?_)))
 refine Yy (ZaddNh s 1) ?_
 refine GL.nil ?_
 exact Zb ⟨(s+1),(X.set s ((L+1)-(xsA.getD s 0))),rfl,Om,(by rw[List.length_set];exact hXl),(wts_s1 hX Om Om Om Om),(zer_step hXz),rfl,rfl⟩
 refine G.skip (GQ.blockN (GQ.thenN (YG ?_)))
 refine Yy (ZaddNh s 1) ?_
 refine GL.nil ?_
 exact Zb ⟨(s+1),X,rfl,Om,hXl,(wts_s0 hX hXz Om Om Om),(fun j hj=>hXz j Om),rfl,rfl⟩
 refine G.exit (GQ.thenE (GQ.thenE (GQ.blockE (GQ.thenN (G.seq (G.seq ?_))))))
 have hWe:X=weightsOf xsA L la:=outs_done hX (by rw[hXl,weightsOf_length Om]) Om
 have hXa:AllLe X 11:=fun x hx=>Nat.le_trans ((hWe▸weightsOf_le:AllLe X L) x hx) Om
 have hX5:AllLe X 15:=fun x hx=>Nat.le_trans (hXa x hx) Od
 refine YG ?_
 refine Zn (G.condF rfl (Z7 (Y6 ?_)))
 refine Yy (Zlen un_22) ?_
 refine Yy (Zgt la 128) ?_
 refine Zn ?_
 refine Zc (fun hlong=>?_) (fun hlong=>?_)
 refine Y5 ?_
 refine Zn (G.ret ?_)
 refine GQ.addE ?_
 repeat first|refine ZR ?_|refine ZB ?_
 exact ret2 [0] rfl rfl rfl rfl AppB.no
 refine Y8 ?_
 refine Yy (Zlen un_22) ?_
 refine Yy (ZaddNh 127 la) ?_
 refine Yy (ZcvNa (127+la) un_3 un_5) ?_
 refine Ze (e_bs (ps:=[(0,.tmp 66)]) (pv:=[(0,Va (127+la))]) (vs:=[Va (127+la)]) 1 rfl ⟨rfl,rfl⟩ el_22 Od Ov rfl rfl) fun b5=>?_
 refine Ya ?_
 refine Y3 ?_
 refine Yy (Zlen un_22) ?_
 refine Zn (G.block ?_)
 refine Zo (fun mz ρ l=>∃i:Nat,∃qp:Option Addr,∃bp op:Nat,∃csp:List Value,∃capp:Nat,∃P:List Nat,∃m:Nat,mz=la-i∧(GS qp bp op csp 1 capp)∧(m≤capp)∧(csp.take m=nats .u8 P)∧(P.length=m)∧(i≤la)∧(P=[127+la]++nib (X.take i))∧ρ=[(4,.slice none 0 0),(5,.bool false),(12,.slice qp m capp),(68,Vs b2 0 la la),(69,Vh la),(70,Vh i)]∧l=[⟨bp,op,csp,none⟩,⟨b2,0,(nats .u8 X),none⟩]) ⟨0,(some ⟨b5,0,none⟩),b5,0,[Va (127+la)],1,[127+la],1,rfl,⟨Oi,.inl rfl⟩,Om,rfl,Ow,Om,(by simp[nib]),rfl,rfl⟩ ?_
 rintro _ _ _ ⟨i,qp,bp,op,csp,capp,P,m,rfl,hgp,hcp,hpp,hlp,hi,hP,rfl,rfl⟩
 refine Y5 ?_
 refine Yy (Zlt i la) ?_
 refine Z4 ?_
 refine Zc (fun h6=>?_) (fun h6=>?_)
 refine Z7 (G.seq (G.block (G.seq ?_)))
 have hx15:=hX5.at_ i
 have hPB:Bytes P:=hP▸nibs_bytes Om hX5
 have hml:=nibs_len hP hlp Om
 have hpb:=hPB.at_ (m-1)
 refine YG ?_
 refine Yy (Zx i i se_22) ?_
 refine Yr (r_ld 1 i rfl rfl rfl ag_5 (Nat.zero_add _).symm (nats_get Oy)) ?_
 refine Y2 ?_
 refine Yy (ZremNh i 2) ?_
 refine Yy (Zeq (i%2) 0) ?_
 refine Zn ?_
 refine Zc (fun hev=>?_) (fun hev=>?_)
 refine YG ?_
 refine Yy (Zq (X.getD i 0*16) (ZshlWa (X.getD i 0) 4)) ?_
 refine Ze (e_bs (ps:=[(0,.tmp 80)]) (pv:=[(0,Va (X.getD i 0*16))]) (vs:=[Va (X.getD i 0*16)]) 1 rfl ⟨rfl,rfl⟩ el_22 Od Ov rfl rfl) fun b7=>?_
 refine GL.eff (e_appN (k:=.u8) (n:=m) (m:=1) (xs:=P) (ys:=[X.getD i 0*16]) 1 rfl rfl rfl rfl el_22 rfl rfl hgp hpp (Src.ofL 0 0 rfl rfl rfl) Oq rfl rfl) rfl ?_
 rintro _ _ ⟨q8,b9,o10,cs11,cap12,hg13,hc14,ht15,rfl,rfl⟩
 refine Ya ?_
 refine GL.nil (GQ.blockN (GQ.thenN (YG ?_)))
 refine Yy (ZaddNh i 1) ?_
 refine GL.nil ?_
 refine GQ.pick [1,1] rfl ?_
 exact Zb ⟨(i+1),q8,b9,o10,cs11,cap12,(P++[X.getD i 0*16]),(m+1),rfl,hg13,hc14,ht15,Ow,Om,(nibs_even hP Om Om),rfl,rfl⟩
 refine YG ?_
 refine Yy (Zlen un_22) ?_
 refine Yy (ZsubNh m 1) ?_
 refine Yy (y_ixG (q':=op+(m-1)) (m:=m-1) rfl rfl rfl se_22 Om (hgp.some' Om) Om) ?_
 refine Yr (Zlc 0 (m-1) ag_5 rfl (pre_get hpp Ou)) ?_
 refine Yy (ZorNa (P.getD (m-1) 0) (X.getD i 0)) ?_
 refine Yy (y_ixG (q':=op+(m-1)) (m:=m-1) rfl rfl rfl se_22 Om (hgp.some' Om) Om) ?_
 refine Ys (e_st 0 (m-1) rfl rfl rfl rfl sz_5 rfl rfl (hgp.j_lt Om) rfl rfl) ?_
 refine GL.nil (GQ.blockN (GQ.thenN (YG ?_)))
 refine Yy (ZaddNh i 1) ?_
 refine GL.nil ?_
 exact Zb ⟨(i+1),qp,bp,op,(csp.set (m-1) (Va ((P.getD (m-1) 0)|||(X.getD i 0)))),capp,(P.set (m-1) ((P.getD (m-1) 0)|||(X.getD i 0))),m,rfl,(GS.set hgp (m-1) (Va ((P.getD (m-1) 0)|||(X.getD i 0)))),hcp,(pre_set hpp Om ((P.getD (m-1) 0)|||(X.getD i 0))),Ow,Om,(nibs_odd hP hlp Om Om Om),rfl,rfl⟩
 refine G.exit (GQ.thenE (GQ.thenE (GQ.blockE (GQ.thenN (Y5 ?_)))))
 refine Zn (G.ret ?_)
 repeat first|refine ZR ?_|refine ZB ?_
 exact ret2 [0] rfl rfl rfl rfl (AppB.mk hgp hcp hpp hlp ⟨L,la,hML,Om,by rw[hP,List.take_of_length_le Om,hWe]⟩)
theorem c_HuffWriteP (sA:Seg) (qA:Option Addr) (nA cA jA:Nat) (xsA:List Nat) (hA:Rd qA nA 1 (nats .i64 xsA) sA jA)  (hz0:nA≤1048576):Con Tryz.prog 7 [.slice qA nA cA,.bool true] [] [sA] (AppB .u8 (TreeP xsA)):=by
 refine Zi Tryz.func7 rfl fun w0=>?_
 refine G.seq ?_
 have hlA:=hA.lenN
 refine YG ?_
 refine Y3 ?_
 refine Zcc [] [0] (c_Whole sA qA nA cA jA xsA hA Om) rfl ?_
 refine Yy (y_not rfl rfl) ?_
 refine Zn ?_
 refine Zc (fun hWh=>?_) (fun hWh=>?_)
 refine Y5 ?_
 refine Zn (G.ret ?_)
 refine GQ.addE ?_
 repeat first|refine ZR ?_|refine ZB ?_
 exact ret2 [0] rfl rfl rfl rfl AppB.no
 have hWh2:WholeL xsA:=Decidable.of_not_not hWh
 have hz:nA≤256:=by rw[←hlA];exact hWh2.1
 refine Y8 ?_
 refine Y3 ?_
 refine Yy (Zlen un_25) ?_
 refine Zn (G.block ?_)
 refine Zo (fun mz ρ l=>∃i L la:Nat,mz=nA-i∧(i≤nA∧L≤11∧la≤i)∧(ML xsA i L la)∧ρ=[(0,.slice qA nA cA),(1,.bool true),(4,.slice none 0 0),(5,.bool false),(6,Vh L),(7,Vh la),(18,.slice qA nA cA),(19,Vh nA),(20,Vh i)]∧l=[]) ⟨0,0,0,rfl,⟨Om,Om,Om⟩,(ML.init _),rfl,rfl⟩ ?_ (hs:=rfl)
 rintro _ _ _ ⟨i,L,la,rfl,hi,hM,rfl,rfl⟩
 refine Y5 ?_
 refine Yy (Zlt i nA) ?_
 refine Z4 ?_
 refine Zc (fun h1=>?_) (fun h1=>?_)
 refine Z7 (G.seq (G.block (Y5 ?_)))
 refine Yy (y_ixG (q':=sA.o+(jA+i)) (m:=i) rfl rfl rfl se_25 Om (hA.ad Om) Om) ?_
 refine Yr (Zkc 0 (jA+i) ag_3 rfl (hA.getN Om)) ?_
 refine Z4 ?_
 have hx11:=hWh2.2.1.at_ i
 refine YG ?_
 refine Yy (y_congr (y_max (X:=((L:Nat):Int)) (Y:=((xsA.getD i 0:Nat):Int)) rfl rfl rfl) (int_eq (show max ((L:Nat):Int) ((xsA.getD i 0:Nat):Int)=((max L (xsA.getD i 0):Nat):Int) from by omega))) ?_
 refine Y2 ?_
 refine Yy (Zgt (xsA.getD i 0) 0) ?_
 refine Zn ?_
 refine Zc (fun hnz=>?_) (fun hnz=>?_)
 refine YG ?_
 refine GL.nil (GQ.blockN (GQ.thenN (YG ?_)))
 refine Yy (ZaddNh i 1) ?_
 refine GL.nil ?_
 exact Zb ⟨(i+1),(max L (xsA.getD i 0)),i,rfl,⟨Om,Om,Om⟩,(ML.s1 hM Om Om),rfl,rfl⟩
 refine G.skip (GQ.blockN (GQ.thenN (YG ?_)))
 refine Yy (ZaddNh i 1) ?_
 refine GL.nil ?_
 exact Zb ⟨(i+1),(max L (xsA.getD i 0)),la,rfl,⟨Om,Om,Om⟩,(ML.s0 hM Om Om),rfl,rfl⟩
 refine G.exit (GQ.thenE (GQ.thenE (GQ.blockE (GQ.thenN (G.seq ?_)))))
 have hML:=hM.done Om hWh2
 have hlt:=hML.lt
 refine YG ?_
 refine Ze (e_mkN (m:=la) (c:=la) rfl rfl rfl el_22 (by first|omega|decide) rfl rfl) fun b2=>?_
 refine Ya ?_
 refine Y3 ?_
 refine Zn (G.block ?_)
 refine Zo (fun mz ρ l=>∃s:Nat,∃X:List Nat,mz=la-s∧(s≤la)∧(X.length=la)∧(∀j,j<s→X.getD j 0=(weightsOf xsA L la).getD j 0)∧(∀j,s≤j→X.getD j 0=0)∧ρ=[(0,.slice qA nA cA),(1,.bool true),(4,.slice none 0 0),(5,.bool false),(6,Vh L),(10,Vs b2 0 la la),(34,Vh la),(35,Vh s)]∧l=[⟨b2,0,(nats .u8 X),none⟩]) ⟨0,(List.replicate la 0),rfl,Om,Oi,(fun j hj=>Om),(fun j _=>getD_rep0 _ _),rfl,rfl⟩ ?_ (hs:=rfl)
 rintro _ _ _ ⟨s,X,rfl,hs,hXl,hX,hXz,rfl,rfl⟩
 refine Y5 ?_
 refine Yy (Zlt s la) ?_
 refine Z4 ?_
 refine Zc (fun h3=>?_) (fun h3=>?_)
 refine Z7 (G.seq (G.block (Y5 ?_)))
 refine Y2 ?_
 refine Yy (y_ixG (q':=sA.o+(jA+s)) (m:=s) rfl rfl rfl se_25 Om (hA.ad Om) Om) ?_
 refine Yr (Zkc 0 (jA+s) ag_3 rfl (hA.getN Om)) ?_
 refine Yy (Zgt (xsA.getD s 0) 0) ?_
 refine Zn ?_
 refine Zc (fun h4=>?_) (fun h4=>?_)
 have hx11:=hML.le.at_ s
 refine YG ?_
 refine Yy (ZaddNh L 1) ?_
 refine Yy (y_ixG (q':=sA.o+(jA+s)) (m:=s) rfl rfl rfl se_25 Om (hA.ad Om) Om) ?_
 refine Yr (Zkc 0 (jA+s) ag_3 rfl (hA.getN Om)) ?_
 refine Yy (ZsubNh (L+1) (xsA.getD s 0)) ?_
 refine Yy (ZcvNa ((L+1)-(xsA.getD s 0)) un_3 un_5) ?_
 refine Yy (Zx s s se_22) ?_
 refine Ys (Zsu 0 s sz_5) ?_
 refine GL.nil (GQ.blockN (GQ.thenN (YG ?_)))
 refine Yy (ZaddNh s 1) ?_
 refine GL.nil ?_
 exact Zb ⟨(s+1),(X.set s ((L+1)-(xsA.getD s 0))),rfl,Om,(by rw[List.length_set];exact hXl),(wts_s1 hX Om Om Om Om),(zer_step hXz),rfl,rfl⟩
 refine G.skip (GQ.blockN (GQ.thenN (YG ?_)))
 refine Yy (ZaddNh s 1) ?_
 refine GL.nil ?_
 exact Zb ⟨(s+1),X,rfl,Om,hXl,(wts_s0 hX hXz Om Om Om),(fun j hj=>hXz j Om),rfl,rfl⟩
 refine G.exit (GQ.thenE (GQ.thenE (GQ.blockE (GQ.thenN (G.seq (G.seq ?_))))))
 have hWe:X=weightsOf xsA L la:=outs_done hX (by rw[hXl,weightsOf_length Om]) Om
 have hXa:AllLe X 11:=fun x hx=>Nat.le_trans ((hWe▸weightsOf_le:AllLe X L) x hx) Om
 have hX12:AllLe X 12:=fun x hx=>Nat.le_trans (hXa x hx) Od
 refine YG ?_
 refine Zn (G.condT rfl (Y5 ?_))
 refine Zcp [] [0] (c_pressedWeights (⟨b2,0,(nats .u8 X),none⟩) (some ⟨b2,0,none⟩) la la 0 X (Rd.ofNats (j:=0) rfl (by rw[List.drop_zero];exact List.take_of_length_le Ou) Ou) Om Oa) rfl ?_
 rintro _ _ ⟨ok17,q5,b6,o7,cs8,cap9,xs10,n11,rfl,hg12,hc13,hp14,hl15,hx16,rfl⟩
 refine Ya ?_
 refine Zn (G.ret ?_)
 repeat first|refine ZR ?_|refine ZB ?_
 exact ret2 [0] rfl rfl rfl rfl (⟨_,_,_,_,_,_,_,_,rfl,hg12,hc13,hp14,hl15,fun h9=>by obtain⟨cs,b,h1,h2,h3,h4,h5⟩:=(hx16 h9).ex;exact⟨L,la,cs,b,hML,h1,h2,hWe▸h3,h4,h5⟩,rfl⟩)
end Go.Proofs.YtplgbfkpeampgaaGreatDoor
