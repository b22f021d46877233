/- Walks (printed by a program of my own). -/
import Derived.Test.YtekcchgffhphbaaGreatDoorP3
set_option linter.unusedVariables false
set_option linter.unusedSimpArgs false
set_option maxRecDepth 100000
namespace Go.Proofs.YtekcchgffhphbaaGreatDoor
open Go
theorem PT {n:Nat} (h:n<64):n&&&63=n:=by rw[show(63:Nat)=2^6-1 from rfl,Nat.and_two_pow_sub_one_eq_mod];exact Nat.mod_eq_of_lt h
theorem PU (bi so:Nat) (bV:cp) (xs:List Nat) (hx:Bytes xs) (k len cap:Nat) (hl:4≤len) (hk:k+4≤xs.length):aI Tryz.prog 101 [.agg #[],Vs bi (so+k) len cap] [] [⟨bi,so,(aa .u8 xs),bV⟩] (fun v l'=>v=Vc (eR xs k)∧l'=[]):=by
 refine Zi Tryz.func101 rfl fun w0=>?_
 refine G.seq ?_;have Aw:=hx.at_ k;have rK:=hx.at_ (k+1);have nU:=hx.at_ (k+2);have uy:=hx.at_ (k+3);refine A1 ?_;refine Ze (jJ rfl rfl rfl rfl rfl) fun b1=>?_
 refine A2 ?_;refine Yy (Zx (so+(k+3)) 3 ak.h) ?_;refine A2 ?_;refine Zg 0 [bE,bB,Mf,cW,dr,bR,rf,cN,cJ,dK,ch,eg,vh,dE,eI,eS,iq,jG,vj,nF,jV,kM,kk] ?_;refine A4 ?_;refine aN (Zx (so+(k+1)) 1 ak.h) ?_;refine A2 ?_;refine aN (cl (xs.getD (k+1) 0) 8) ?_;refine A1 ?_;refine aN (Zx (so+(k+2)) 2 ak.h) ?_;refine A2 ?_;refine aN (cl (xs.getD (k+2) 0) 16) ?_;refine aN (du (m:=(xs.getD k 0)|||((xs.getD (k+1) 0)*2^8%4294967296)) (n:=(xs.getD (k+2) 0)*2^16%4294967296) rfl rfl rfl (bD Om Om) Om) ?_;refine aN (Zx (so+(k+3)) 3 ak.h) ?_;refine A2 ?_;refine aN (cl (xs.getD (k+3) 0) 24) ?_
 refine aN (du (m:=((xs.getD k 0)|||((xs.getD (k+1) 0)*2^8%4294967296))|||((xs.getD (k+2) 0)*2^16%4294967296)) (n:=(xs.getD (k+3) 0)*2^24%4294967296) rfl rfl rfl (bD (bD Om Om) Om) Om) ?_;refine A3 ?_;repeat first|refine ZR ?_|refine ZB ?_
 exact ck [] rfl rfl rfl (⟨by simp[eR],rfl⟩)
theorem Ep (bi so:Nat) (bV:cp) (xs:List Nat) (hx:Bytes xs) (k len cap:Nat) (hl:8≤len) (hk:k+8≤xs.length):aI Tryz.prog 128 [.agg #[],Vs bi (so+k) len cap] [] [⟨bi,so,(aa .u8 xs),bV⟩] (fun v l'=>v=Vd (mg xs k)∧l'=[]):=by
 refine Zi Tryz.func128 rfl fun w0=>?_
 refine G.seq ?_;have Aw:=hx.at_ k;have rK:=hx.at_ (k+1);have nU:=hx.at_ (k+2);have uy:=hx.at_ (k+3);have hb4:=hx.at_ (k+4);have hb5:=hx.at_ (k+5);have hb6:=hx.at_ (k+6);have hb7:=hx.at_ (k+7);refine A1 ?_;refine Ze (jJ rfl rfl rfl rfl rfl) fun b1=>?_
 refine A2 ?_;refine Yy (Zx (so+(k+7)) 7 ak.h) ?_;refine A2 ?_;refine Zg 0 [bE,bB,Mf,cW,dr,bR,rf,cN,cJ,dK,ch,eg,vh,dE,eI,eS,iq,jG,vj,nF,jV,kM,kk,wo,as2,Xf,ac5,ac6,as6,as7,as3,as8,as9,ata,atb,atc,as4,atd,ate,atf,atg,ath,as5,ati,atj,atk,atl] ?_;refine A4 ?_;refine aN (Zx (so+(k+1)) 1 ak.h) ?_;refine A2 ?_;refine aN (ji (xs.getD (k+1) 0) 8) ?_;refine A1 ?_;refine aN (Zx (so+(k+2)) 2 ak.h) ?_;refine A2 ?_;refine aN (ji (xs.getD (k+2) 0) 16) ?_
 refine aN (mX (m:=(xs.getD k 0)|||((xs.getD (k+1) 0)*2^8%18446744073709551616)) (n:=(xs.getD (k+2) 0)*2^16%18446744073709551616) rfl rfl rfl (cq Om Om) Om) ?_;refine aN (Zx (so+(k+3)) 3 ak.h) ?_;refine A2 ?_;refine aN (ji (xs.getD (k+3) 0) 24) ?_;refine aN (mX (m:=((xs.getD k 0)|||((xs.getD (k+1) 0)*2^8%18446744073709551616))|||((xs.getD (k+2) 0)*2^16%18446744073709551616)) (n:=(xs.getD (k+3) 0)*2^24%18446744073709551616) rfl rfl rfl (cq (cq Om Om) Om) Om) ?_;refine aN (Zx (so+(k+4)) 4 ak.h) ?_;refine A2 ?_;refine aN (ji (xs.getD (k+4) 0) 32) ?_
 refine aN (mX (m:=(((xs.getD k 0)|||((xs.getD (k+1) 0)*2^8%18446744073709551616))|||((xs.getD (k+2) 0)*2^16%18446744073709551616))|||((xs.getD (k+3) 0)*2^24%18446744073709551616)) (n:=(xs.getD (k+4) 0)*2^32%18446744073709551616) rfl rfl rfl (cq (cq (cq Om Om) Om) Om) Om) ?_;refine aN (Zx (so+(k+5)) 5 ak.h) ?_;refine A2 ?_;refine aN (ji (xs.getD (k+5) 0) 40) ?_
 refine aN (mX (m:=((((xs.getD k 0)|||((xs.getD (k+1) 0)*2^8%18446744073709551616))|||((xs.getD (k+2) 0)*2^16%18446744073709551616))|||((xs.getD (k+3) 0)*2^24%18446744073709551616))|||((xs.getD (k+4) 0)*2^32%18446744073709551616)) (n:=(xs.getD (k+5) 0)*2^40%18446744073709551616) rfl rfl rfl (cq (cq (cq (cq Om Om) Om) Om) Om) Om) ?_;refine aN (Zx (so+(k+6)) 6 ak.h) ?_;refine A2 ?_;refine aN (ji (xs.getD (k+6) 0) 48) ?_
 refine aN (mX (m:=(((((xs.getD k 0)|||((xs.getD (k+1) 0)*2^8%18446744073709551616))|||((xs.getD (k+2) 0)*2^16%18446744073709551616))|||((xs.getD (k+3) 0)*2^24%18446744073709551616))|||((xs.getD (k+4) 0)*2^32%18446744073709551616))|||((xs.getD (k+5) 0)*2^40%18446744073709551616)) (n:=(xs.getD (k+6) 0)*2^48%18446744073709551616) rfl rfl rfl (cq (cq (cq (cq (cq Om Om) Om) Om) Om) Om) Om) ?_;refine aN (Zx (so+(k+7)) 7 ak.h) ?_;refine A2 ?_;refine aN (ji (xs.getD (k+7) 0) 56) ?_
 refine aN (mX (m:=((((((xs.getD k 0)|||((xs.getD (k+1) 0)*2^8%18446744073709551616))|||((xs.getD (k+2) 0)*2^16%18446744073709551616))|||((xs.getD (k+3) 0)*2^24%18446744073709551616))|||((xs.getD (k+4) 0)*2^32%18446744073709551616))|||((xs.getD (k+5) 0)*2^40%18446744073709551616))|||((xs.getD (k+6) 0)*2^48%18446744073709551616)) (n:=(xs.getD (k+7) 0)*2^56%18446744073709551616) rfl rfl rfl (cq (cq (cq (cq (cq (cq Om Om) Om) Om) Om) Om) Om) Om) ?_;refine A3 ?_;repeat first|refine ZR ?_|refine ZB ?_
 exact ck [] rfl rfl rfl (⟨by simp[mg],rfl⟩)
theorem ua (bi so:Nat) (bV:cp) (xs:List Nat) (hx:Bytes xs) (k len cap i:Nat) (hl:i+4≤len) (hc:len≤cap) (hk:k+len≤xs.length):aI Tryz.prog 70 [Vs bi (so+k) len cap,Vd i] [] [⟨bi,so,(aa .u8 xs),bV⟩] (fun v l'=>v=Vc (eR xs (k+i))∧l'=[]):=by
 refine Zi Tryz.func70 rfl fun w0=>?_
 refine A2 ?_;refine Zg 16 [Me,bB,bG,cW,e_4,bR] ?_;refine j8 (aG.zf (Jh rfl rfl BZ.h B1.h)) ?_;refine aN (de (q':=so+(k+i)) (lo:=i) rfl rfl rfl ak.h Om Om) ?_;refine et [] [0] (PU bi so bV xs Oa (k+i) (len-i) (cap-i) Om Om) rfl ?_;refine A4 ?_;repeat first|refine ZR ?_|refine ZB ?_
 exact ck [] rfl rfl rfl (⟨rfl,rfl⟩)
theorem Er (bi so:Nat) (bV:cp) (xs:List Nat) (hx:Bytes xs) (k len cap i:Nat) (hl:i+8≤len) (hc:len≤cap) (hk:k+len≤xs.length):aI Tryz.prog 100 [Vs bi (so+k) len cap,Vd i] [] [⟨bi,so,(aa .u8 xs),bV⟩] (fun v l'=>v=Vd (mg xs (k+i))∧l'=[]):=by
 refine Zi Tryz.func100 rfl fun w0=>?_
 refine A2 ?_;refine Zg 16 [Me,bB,bG,cW,e_4,bR] ?_;refine j8 (aG.zf (Jh rfl rfl BZ.h B1.h)) ?_;refine aN (de (q':=so+(k+i)) (lo:=i) rfl rfl rfl ak.h Om Om) ?_;refine et [] [0] (Ep bi so bV xs Oa (k+i) (len-i) (cap-i) Om Om) rfl ?_;refine A4 ?_;repeat first|refine ZR ?_|refine ZB ?_
 exact ck [] rfl rfl rfl (⟨rfl,rfl⟩)
theorem xZ (n:Nat) (h:n<256):aq n≤8:=cL (k:=8) h
theorem Xm (x:Nat) (hx:x<4294967296) (h1:65536≤x) (h2:256≤x/2^16):16+8+aq (x/2^16/2^8%256)=aq x:=by
  rw[Nat.mod_eq_of_lt Om,sV x 16 Om,sV (x/2^16) 8 Om];omega
theorem Xn (x:Nat) (hx:x<4294967296) (h1:65536≤x) (h2:¬256≤x/2^16):16+aq (x/2^16%256)=aq x:=by
  rw[Nat.mod_eq_of_lt Om,sV x 16 Om]
theorem Xo (x:Nat) (hx:x<4294967296) (h1:¬65536≤x) (h2:256≤x):0+8+aq (x/2^8%256)=aq x:=by
  rw[Nat.mod_eq_of_lt Om,sV x 8 Om]
theorem Xp (x:Nat) (hx:x<4294967296) (h1:¬65536≤x) (h2:¬256≤x):0+aq (x%256)=aq x:=by
  rw[Nat.mod_eq_of_lt Om,Nat.zero_add]
theorem J1 (x:Nat) (hx:x<4294967296):aI Tryz.prog 60 [Vc x] [] [] (fun v l'=>v=Vh (aq x)∧l'=[]):=by
 refine Zi Tryz.func60 rfl fun w0=>?_
 refine A4 ?_;refine Zc (fun h1=>?_) (fun h1=>?_);refine A6 ?_;refine Zc (fun h2=>?_) (fun h2=>?_);refine A3 ?_;refine Yy (Zq 24 (aE 16 8) Od) ?_;refine A1 ?_;refine Yy (az ((x/2^16)/2^8) pq.h a8.h) ?_;refine Yy (Bg (sb:=Nz) (m:=((x/2^16)/2^8)%256) rfl (by kernel_rfl) rfl Xg.h (wD _ Om)) ?_;have U':=xZ (((x/2^16)/2^8)%256) Om;refine A4 ?_;repeat first|refine ZR ?_|refine ZB ?_
 exact ck [] rfl rfl rfl (⟨congrArg (fun q:Nat=>Value.int .i64 (q:Int)) (Xm x hx Om Om),rfl⟩);refine A1 ?_;refine Yy (az (x/2^16) pq.h a8.h) ?_;refine Yy (Bg (sb:=Nz) (m:=(x/2^16)%256) rfl (by kernel_rfl) rfl Xg.h (wD _ Om)) ?_;have U':=xZ ((x/2^16)%256) Om;refine A1 ?_;refine Yy (aE 16 (aq ((x/2^16)%256))) ?_;refine A2 ?_;repeat first|refine ZR ?_|refine ZB ?_
 exact ck [] rfl rfl rfl (⟨congrArg (fun q:Nat=>Value.int .i64 (q:Int)) (Xn x hx Om Om),rfl⟩);refine A4 ?_;refine Zc (fun h3=>?_) (fun h3=>?_);refine A3 ?_;refine Yy (Zq 8 (aE 0 8) Od) ?_;refine A1 ?_;refine Yy (az (x/2^8) pq.h a8.h) ?_;refine Yy (Bg (sb:=Nz) (m:=(x/2^8)%256) rfl (by kernel_rfl) rfl Xg.h (wD _ Om)) ?_;have U':=xZ ((x/2^8)%256) Om;refine A4 ?_;repeat first|refine ZR ?_|refine ZB ?_
 exact ck [] rfl rfl rfl (⟨congrArg (fun q:Nat=>Value.int .i64 (q:Int)) (Xo x hx Om Om),rfl⟩);refine A1 ?_;refine Yy (az x pq.h a8.h) ?_;refine Yy (Bg (sb:=Nz) (m:=x%256) rfl (by kernel_rfl) rfl Xg.h (wD _ Om)) ?_;have U':=xZ (x%256) Om;refine A1 ?_;refine Yy (aE 0 (aq (x%256))) ?_;refine A2 ?_;repeat first|refine ZR ?_|refine ZB ?_
 exact ck [] rfl rfl rfl (⟨congrArg (fun q:Nat=>Value.int .i64 (q:Int)) (Xp x hx Om Om),rfl⟩)
theorem dz (x:Nat) (h0:0<x) (hx:x<4294967296):aI Tryz.prog 39 [Vc x] [] [] (fun v l'=>v=Vc (aq x-1)∧l'=[]):=by
 refine Zi Tryz.func39 rfl fun w0=>?_
 refine A1 ?_;refine bM ?_;have hp:=dy h0;have hb:aq x≤32:=cL (k:=32) Om;refine A1 ?_;refine cg [] [] (J1 x Om) rfl ?_;refine A4 ?_;repeat first|refine ZR ?_|refine ZB ?_
 exact ck [] rfl rfl rfl (⟨rfl,rfl⟩)
theorem fu (x:Nat) (h0:0<x) (hx:x<4294967296):aI Tryz.prog 87 [Vc x] [] [] (fun v l'=>v=Vc (aq x-1)∧l'=[]):=by
 refine Zi Tryz.func87 rfl fun w0=>?_
 refine A1 ?_;refine bM ?_;have hp:=dy h0;have hb:aq x≤32:=cL (k:=32) Om;refine A1 ?_;refine cg [] [] (J1 x Om) rfl ?_;refine A4 ?_;repeat first|refine ZR ?_|refine ZB ?_
 exact ck [] rfl rfl rfl (⟨rfl,rfl⟩)
theorem ai (iv:Value) (len:Nat) (b o:Nat) (sh:cp) (s:BR) (h:s.OK len) (n:Nat) (hn:n<256):aI Tryz.prog 45 [Vp b o,Va n] [⟨b,o,[iv,Vd s.off,Vd s.val,Va s.rd],sh⟩] [] (fun v l'=>v=.tuple #[]∧l'=[⟨b,o,eu (iv) (BR.adv s n),sh⟩]):=by
 refine Zi Tryz.func45 rfl fun w0=>?_
 refine G.seq ?_;have lu:=h.off;have gB:=h.val;have kD:=h.rd;refine Mg ?_;exact dH [0] rfl rfl (⟨rfl,rfl⟩)
theorem x4 (iv:Value) (len:Nat) (b o:Nat) (sh:cp) (s:BR) (h:s.OK len) (n:Nat) (hn:n≤64):aI Tryz.prog 44 [Vp b o,Va n] [⟨b,o,[iv,Vd s.off,Vd s.val,Va s.rd],sh⟩] [] (fun v l'=>v=Vb (s.abG n)∧l'=[⟨b,o,eu (iv) s,sh⟩]):=by
 refine Zi Tryz.func44 rfl fun w0=>?_
 refine A1 ?_;refine bM ?_;have lu:=h.off;have gB:=h.val;have kD:=h.rd;refine A9 ?_;repeat first|refine ZR ?_|refine ZB ?_
 exact ck [0] rfl rfl rfl (⟨rfl,rfl⟩)
theorem dN (bi so:Nat) (bV:cp) (xs:List Nat) (k len cap:Nat) (hc:len≤cap) (hk:k+len≤xs.length) (hz:xs.length≤1152921504606846976) (b o:Nat) (sh:cp) (s:BR) (h:s.OK len) (hx:Bytes xs) (h4:32≤s.rd→4≤s.off) (hr:s.rd≤64):aI Tryz.prog 43 [Vp b o] [⟨b,o,[Vs bi (so+k) len cap,Vd s.off,Vd s.val,Va s.rd],sh⟩] [⟨bi,so,(aa .u8 xs),bV⟩] (fun v l'=>v=.tuple #[]∧l'=[⟨b,o,eu (Vs bi (so+k) len cap) (BR.aX xs k s),sh⟩]):=by
 refine Zi Tryz.func43 rfl fun w0=>?_
 refine G.seq (G.seq ?_);have lu:=h.off;have gB:=h.val;have kD:=h.rd;refine A5 ?_;refine Zc (fun h1=>?_) (fun h1=>?_);have qP:s.rd<32:=Om;refine A1 ?_;repeat first|refine ZR ?_|refine ZB ?_
 exact oN [0] rfl rfl (⟨rfl,by simp[BR.aX,BR.eW,eu,qP]⟩);have qP:¬s.rd<32:=Om;have h4:=h4 Om;have eU:=dJ hx (k+(s.off-4));refine A2 ?_;refine Zg 512 [bE,bB,bG,ic,dr,bR,cw,nZ,cJ,jU,ch] ?_;refine A6 ?_;refine et [] [1] (ua bi so bV xs Oa k len cap (s.off-4) Om Om Om) rfl ?_;refine A4 ?_;refine Zg 65536 [bE,bB,bG,ic,dr,bR,cw,cN,cJ,BY,ch,eg,dU,dE,eI,eS,Px] ?_;refine A27 ?_;exact dH [0] rfl rfl (⟨rfl,by simp[BR.aX,BR.eW,eu,qP,PT (show s.rd-32<64 by omega)]⟩)
theorem mM (bi so:Nat) (bV:cp) (xs:List Nat) (k len cap:Nat) (hc:len≤cap) (hk:k+len≤xs.length) (hz:xs.length≤1152921504606846976) (b o:Nat) (sh:cp) (s:BR) (h:s.OK len) (hx:Bytes xs) (h8:8≤s.off):aI Tryz.prog 68 [Vp b o] [⟨b,o,[Vs bi (so+k) len cap,Vd s.off,Vd s.val,Va s.rd],sh⟩] [⟨bi,so,(aa .u8 xs),bV⟩] (fun v l'=>v=.tuple #[]∧l'=[⟨b,o,eu (Vs bi (so+k) len cap) (⟨s.off-8,mg xs (k+(s.off-8)),0⟩:BR),sh⟩]):=by
 refine Zi Tryz.func68 rfl fun w0=>?_
 refine A1 ?_;have lu:=h.off;have gB:=h.val;have kD:=h.rd;refine Zg 9216 [bE,bB,bG,cW,gZ,bR,cw,cN,AF,dK,po,eg,dU,Lg] ?_;refine A6 ?_;refine et [] [1] (Er bi so bV xs Oa k len cap (s.off-8) Om Om Om) rfl ?_;refine A7 ?_;refine Ys (gN 0 3 gh.h) ?_;refine A7 ?_;exact dH [0] rfl rfl (⟨rfl,rfl⟩)
theorem ky (iv:Value) (len:Nat) (b o:Nat) (sh:cp) (s:BR) (h:s.OK len) (hr:s.rd≤64) (hz:len≤1152921504606846976):aI Tryz.prog 47 [Vp b o] [⟨b,o,[iv,Vd s.off,Vd s.val,Va s.rd],sh⟩] [] (fun v l'=>v=Vd s.left∧l'=[⟨b,o,eu (iv) s,sh⟩]):=by
 refine Zi Tryz.func47 rfl fun w0=>?_
 refine G.seq ?_;have lu:=h.off;have gB:=h.val;have kD:=h.rd;refine A2 ?_;refine Zg 0 [bE,bB,bG,ic,dr,bR,cw,cN,AF,dK,ch,eg,dU] ?_;refine FG ?_;repeat first|refine ZR ?_|refine ZB ?_
 exact ck [0] rfl rfl rfl (⟨rfl,rfl⟩)
theorem eO (bi so:Nat) (bV:cp) (xs:List Nat) (k len cap:Nat) (hc:len≤cap) (hk:k+len≤xs.length) (hz:xs.length≤1152921504606846976) (b o:Nat) (sh:cp) (s:BR) (h:s.OK len) (hx:Bytes xs) (hr:s.rd≤64) (h8:32≤s.rd→s.off<5→8*s.off≤s.rd):aI Tryz.prog 48 [Vp b o] [⟨b,o,[Vs bi (so+k) len cap,Vd s.off,Vd s.val,Va s.rd],sh⟩] [⟨bi,so,(aa .u8 xs),bV⟩] (fun v l'=>v=.tuple #[]∧l'=[⟨b,o,eu (Vs bi (so+k) len cap) (BR.fill 5 xs k s),sh⟩]):=by
 refine Zi Tryz.func48 rfl fun w0=>?_
 refine G.seq (G.seq ?_);have lu:=h.off;have gB:=h.val;have kD:=h.rd;refine A5 ?_;refine Zc (fun h1=>?_) (fun h1=>?_);have qP:s.rd<32:=Om;refine A1 ?_;repeat first|refine ZR ?_|refine ZB ?_
 exact oN [0] rfl rfl (⟨rfl,by simp[BR.fill,eu,qP]⟩);have qP:¬s.rd<32:=Om;refine A6 ?_;refine Zc (fun h2=>?_) (fun h2=>?_);have h4:5≤s.off:=Om;have eU:=dJ hx (k+(s.off-4));refine A1 ?_;refine Zg 512 [bE,bB,bG,ic,dr,bR,cw,nZ,cJ,jU,ch] ?_;refine A6 ?_;refine et [] [1] (ua bi so bV xs Oa k len cap (s.off-4) Om Om Om) rfl ?_;refine A4 ?_;refine Zg 65536 [bE,bB,bG,ic,dr,bR,cw,cN,cJ,BY,ch,eg,dU,dE,eI,eS,Px] ?_;refine A28 ?_;repeat first|refine ZR ?_|refine ZB ?_
 exact oN [0] rfl rfl (⟨rfl,by simp[BR.fill,BR.eW,eu,qP,h4,PT (show s.rd-32<64 by omega)]⟩);have h4:¬5≤s.off:=Om;have h8:=h8 Om Om;refine A2 ?_;refine Zo (fun mz ρ l=>∃j:Nat,mz=s.off-j∧(j≤s.off)∧ρ=[(0,Vp b o)]∧l=[⟨b,o,[Vs bi (so+k) len cap,Vd ((BR.loads xs k j s).off),Vd ((BR.loads xs k j s).val),Va ((BR.loads xs k j s).rd)],sh⟩]) ⟨0,rfl,Om,rfl,rfl⟩ ?_;rintro _ _ _ ⟨j,rfl,hj,rfl,rfl⟩;have ho1:=BR.jN (xs:=xs) (k:=k) (s:=s) j;have FE:=BR.mj (xs:=xs) (k:=k) (s:=s) j;have wc:=(BR.OK.loads (xs:=xs) (k:=k) h j).val;have rK:=hx.at_ (k+((BR.loads xs k j s).off-1));refine A5 ?_
 refine Zc (fun h3=>?_) (fun h3=>?_);refine A3 ?_;refine Zg 67108864 [bE,bB,bG,ic,dr,bR,cw,nZ,cJ,dK,ch,kL,dU,dE,vi,eS,iq,jG,rW,zr,jV,kM,kk,wo,wq,Xf,as1] ?_;refine A35 ?_;exact Zb ⟨j+1,rfl,Om,rfl,(by simp[setS,BR.loads,BR.br,PT (show(BR.loads xs k j s).rd-8<64 by omega)])⟩;refine A4 ?_;exact dH [0] rfl rfl (⟨rfl,by simp[BR.fill,eu,qP,h4,show j=s.off by omega]⟩)
theorem gi (iv:Value) (len:Nat) (b o:Nat) (sh:cp) (s:BR) (h:s.OK len) (h0:s.off=0) (ux:s.rd=64) (hz:len≤1152921504606846976):aI Tryz.prog 49 [Vp b o] [⟨b,o,[iv,Vd s.off,Vd s.val,Va s.rd],sh⟩] [] (fun v l'=>v=.nilIface∧l'=[⟨b,o,eu Vn s,sh⟩]):=by
 refine Zi Tryz.func49 rfl fun w0=>?_
 refine G.seq ?_;have lu:=h.off;have gB:=h.val;have kD:=h.rd;have hlf:s.left=0:=by simp[BR.left,h0,ux]
 refine A5 ?_;refine cg [0] [] (ky Vn _ b o sh s Oa Om Om) rfl ?_;refine A2 ?_;refine Zc (fun h1=>?_) (fun h1=>?_)
 exfalso;omega
 refine A6 ?_;refine Zc (fun h2=>?_) (fun h2=>?_)
 exfalso;omega
 refine A3 ?_;repeat first|refine ZR ?_|refine ZB ?_
 exact ck [0] rfl rfl rfl (⟨rfl,rfl⟩)
theorem gG (bi so:Nat) (bV:cp) (xs:List Nat) (k len cap:Nat) (hc:len≤cap) (hk:k+len≤xs.length) (hz:xs.length≤1152921504606846976) (hx:Bytes xs) (h1:1≤len) (hv:0<xs.getD (k+(len-1)) 0) (b o:Nat) (sh:cp) (c0 c1 c2 c3:Value):aI Tryz.prog 41 [Vp b o,Vs bi (so+k) len cap] [⟨b,o,[c0,c1,c2,c3],sh⟩] [⟨bi,so,(aa .u8 xs),bV⟩] (fun v l'=>v=.nilIface∧l'=[⟨b,o,eu (Vs bi (so+k) len cap) (BR.init 5 xs k len),sh⟩]):=by
 refine Zi Tryz.func41 rfl fun w0=>?_
 refine G.seq ?_;have hs0:BR.OK len ⟨len,0,64⟩:=⟨Nat.le_refl _,Oi,Oi⟩;have hlb:=hx.at_ (k+(len-1));have U':aq (xs.getD (k+(len-1)) 0)≤8:=xZ _ hlb;have A0:=BR.OK.fill (t:=5) (xs:=xs) (k:=k) hs0;have FL:=BR.OK.fill (t:=5) (xs:=xs) (k:=k) A0;refine A5 ?_
 focus
  refine Zc (fun h1=>?_) (fun h1=>?_)
  exfalso;omega
  refine Xk ?_;refine Zc (fun h2=>?_) (fun h2=>?_)
  exfalso;omega
  refine A2 ?_;refine Ys (gN 0 3 gh.h) ?_;refine A2 ?_;refine Ys (gN 0 2 AI.h) ?_;refine A4 ?_;refine Zc (fun hq=>?_) (fun hq=>?_);have h8:8≤len:=Om;have hs8:BR.OK len (⟨(⟨len,0,64⟩:BR).off-8,mg xs (k+((⟨len,0,64⟩:BR).off-8)),0⟩:BR):=⟨Oi,m9 hx _,Oi⟩;refine A1 ?_;refine cg [0] [0] (mM bi so bV xs k len cap Om Om Om b o sh (⟨len,0,64⟩:BR) Oa Oa Om) rfl ?_;refine A2 ?_;refine cg [] [] (dz (xs.getD (k+(len-1)) 0) Om Om) rfl ?_;refine A2 ?_
  refine cg [0] [] (ai (Vs bi (so+k) len cap) _ b o sh (⟨(⟨len,0,64⟩:BR).off-8,mg xs (k+((⟨len,0,64⟩:BR).off-8)),0⟩:BR) Oa (8-(aq (xs.getD (k+(len-1)) 0)-1)) Om) rfl ?_;rotate_left;have h8:¬8≤len:=Om;have e1:(⟨len,0,64⟩:BR).rd=64:=rfl;have e2:(⟨len,0,64⟩:BR).off=len:=rfl;have hf1:=BR.Jk (t:=5) (xs:=xs) (k:=k) (s:=⟨len,0,64⟩) Oi;have hf2:=BR.rE (t:=5) (xs:=xs) (k:=k) (len:=len) Om Om;refine A1 ?_;refine cg [0] [0] (eO bi so bV xs k len cap Om Om Om b o sh (⟨len,0,64⟩:BR) Oa Oa Om Om) rfl ?_;refine A1 ?_
  refine cg [0] [0] (eO bi so bV xs k len cap Om Om Om b o sh (BR.fill 5 xs k (⟨len,0,64⟩:BR)) Oa Oa Om Om) rfl ?_;refine A2 ?_;refine cg [] [] (dz (xs.getD (k+(len-1)) 0) Om Om) rfl ?_;refine A2 ?_;refine cg [0] [] (ai (Vs bi (so+k) len cap) _ b o sh (BR.fill 5 xs k (BR.fill 5 xs k (⟨len,0,64⟩:BR))) Oa (8-(aq (xs.getD (k+(len-1)) 0)-1)) Om) rfl ?_;rotate_left;all_goals
   refine A3 ?_;repeat first|refine ZR ?_|refine ZB ?_
   exact ck [0] rfl rfl rfl (⟨rfl,by simp[BR.init,BR.start,eu,h8]⟩)
theorem ag (iv:Value) (len:Nat) (b o:Nat) (sh:cp) (s:BR) (h:s.OK len) (n:Nat) (hn:n<256):aI Tryz.prog 66 [Vp b o,Va n] [⟨b,o,[iv,Vd s.off,Vd s.val,Va s.rd],sh⟩] [] (fun v l'=>v=.tuple #[]∧l'=[⟨b,o,eu (iv) (BR.adv s n),sh⟩]):=by
 refine Zi Tryz.func66 rfl fun w0=>?_
 refine G.seq ?_;have lu:=h.off;have gB:=h.val;have kD:=h.rd;refine Mg ?_;exact dH [0] rfl rfl (⟨rfl,rfl⟩)
theorem ub (iv:Value) (len:Nat) (b o:Nat) (sh:cp) (s:BR) (h:s.OK len):aI Tryz.prog 72 [Vp b o] [⟨b,o,[iv,Vd s.off,Vd s.val,Va s.rd],sh⟩] [] (fun v l'=>v=Va (s.val/2^56%256)∧l'=[⟨b,o,eu (iv) s,sh⟩]):=by
 refine Zi Tryz.func72 rfl fun w0=>?_
 refine A1 ?_;refine bM ?_;have lu:=h.off;have gB:=h.val;have kD:=h.rd;refine A4 ?_;refine Yy (az (s.val/2^56) ZI.h a8.h) ?_;refine A3 ?_;repeat first|refine ZR ?_|refine ZB ?_
 exact ck [0] rfl rfl rfl (⟨rfl,rfl⟩)
theorem aY (bi so:Nat) (bV:cp) (xs:List Nat) (k len cap:Nat) (hc:len≤cap) (hk:k+len≤xs.length) (hz:xs.length≤1152921504606846976) (b o:Nat) (sh:cp) (s:BR) (h:s.OK len) (hx:Bytes xs) (h4:32≤s.rd→4≤s.off) (hr:s.rd≤64):aI Tryz.prog 63 [Vp b o] [⟨b,o,[Vs bi (so+k) len cap,Vd s.off,Vd s.val,Va s.rd],sh⟩] [⟨bi,so,(aa .u8 xs),bV⟩] (fun v l'=>v=.tuple #[]∧l'=[⟨b,o,eu (Vs bi (so+k) len cap) (BR.aX xs k s),sh⟩]):=by
 refine Zi Tryz.func63 rfl fun w0=>?_
 refine G.seq (G.seq ?_);have lu:=h.off;have gB:=h.val;have kD:=h.rd;refine A5 ?_;refine Zc (fun h1=>?_) (fun h1=>?_);have qP:s.rd<32:=Om;refine A1 ?_;repeat first|refine ZR ?_|refine ZB ?_
 exact oN [0] rfl rfl (⟨rfl,by simp[BR.aX,BR.eW,eu,qP]⟩);have qP:¬s.rd<32:=Om;have h4:=h4 Om;have eU:=dJ hx (k+(s.off-4));refine A2 ?_;refine Zg 512 [bE,bB,bG,ic,dr,bR,cw,nZ,cJ,jU,ch] ?_;refine A6 ?_;refine et [] [1] (ua bi so bV xs Oa k len cap (s.off-4) Om Om Om) rfl ?_;refine A4 ?_;refine Zg 32768 [bE,bB,bG,ic,dr,bR,cw,cN,cJ,BY,ch,eg,dU,dE,eI,Eg] ?_;refine A26 ?_;exact dH [0] rfl rfl (⟨rfl,by simp[BR.aX,BR.eW,eu,qP]⟩)
theorem oz (bi so:Nat) (bV:cp) (xs:List Nat) (k len cap:Nat) (hc:len≤cap) (hk:k+len≤xs.length) (hz:xs.length≤1152921504606846976) (b o:Nat) (sh:cp) (s:BR) (h:s.OK len) (hx:Bytes xs) (h8:8≤s.off):aI Tryz.prog 98 [Vp b o] [⟨b,o,[Vs bi (so+k) len cap,Vd s.off,Vd s.val,Va s.rd],sh⟩] [⟨bi,so,(aa .u8 xs),bV⟩] (fun v l'=>v=.tuple #[]∧l'=[⟨b,o,eu (Vs bi (so+k) len cap) (⟨s.off-8,mg xs (k+(s.off-8)),0⟩:BR),sh⟩]):=by
 refine Zi Tryz.func98 rfl fun w0=>?_
 refine A1 ?_;have lu:=h.off;have gB:=h.val;have kD:=h.rd;refine Zg 9216 [bE,bB,bG,cW,gZ,bR,cw,cN,AF,dK,po,eg,dU,Lg] ?_;refine A6 ?_;refine et [] [1] (Er bi so bV xs Oa k len cap (s.off-8) Om Om Om) rfl ?_;refine A7 ?_;refine Ys (gN 0 3 gh.h) ?_;refine A7 ?_;exact dH [0] rfl rfl (⟨rfl,rfl⟩)
theorem lH (iv:Value) (len:Nat) (b o:Nat) (sh:cp) (s:BR) (h:s.OK len) (hr:s.rd≤64) (hz:len≤1152921504606846976):aI Tryz.prog 64 [Vp b o] [⟨b,o,[iv,Vd s.off,Vd s.val,Va s.rd],sh⟩] [] (fun v l'=>v=Vd s.left∧l'=[⟨b,o,eu (iv) s,sh⟩]):=by
 refine Zi Tryz.func64 rfl fun w0=>?_
 refine G.seq ?_;have lu:=h.off;have gB:=h.val;have kD:=h.rd;refine A2 ?_;refine Zg 0 [bE,bB,bG,ic,dr,bR,cw,cN,AF,dK,ch,eg,dU] ?_;refine FG ?_;repeat first|refine ZR ?_|refine ZB ?_
 exact ck [0] rfl rfl rfl (⟨rfl,rfl⟩)
theorem uc (bi so:Nat) (bV:cp) (xs:List Nat) (k len cap:Nat) (hc:len≤cap) (hk:k+len≤xs.length) (hz:xs.length≤1152921504606846976) (b o:Nat) (sh:cp) (s:BR) (h:s.OK len) (hx:Bytes xs) (hr:s.rd≤64) (h8:32≤s.rd→s.off<4→8*s.off≤s.rd):aI Tryz.prog 99 [Vp b o] [⟨b,o,[Vs bi (so+k) len cap,Vd s.off,Vd s.val,Va s.rd],sh⟩] [⟨bi,so,(aa .u8 xs),bV⟩] (fun v l'=>v=.tuple #[]∧l'=[⟨b,o,eu (Vs bi (so+k) len cap) (BR.fill 4 xs k s),sh⟩]):=by
 refine Zi Tryz.func99 rfl fun w0=>?_
 refine G.seq (G.seq ?_);have lu:=h.off;have gB:=h.val;have kD:=h.rd;refine A5 ?_;refine Zc (fun h1=>?_) (fun h1=>?_);have qP:s.rd<32:=Om;refine A1 ?_;repeat first|refine ZR ?_|refine ZB ?_
 exact oN [0] rfl rfl (⟨rfl,by simp[BR.fill,eu,qP]⟩);have qP:¬s.rd<32:=Om;refine A6 ?_;refine Zc (fun h2=>?_) (fun h2=>?_);have h4:4≤s.off:=Om;have eU:=dJ hx (k+(s.off-4));refine A1 ?_;refine Zg 512 [bE,bB,bG,ic,dr,bR,cw,nZ,cJ,jU,ch] ?_;refine A6 ?_;refine et [] [1] (ua bi so bV xs Oa k len cap (s.off-4) Om Om Om) rfl ?_;refine A4 ?_;refine Zg 32768 [bE,bB,bG,ic,dr,bR,cw,cN,cJ,BY,ch,eg,dU,dE,eI,Eg] ?_;refine A27 ?_;repeat first|refine ZR ?_|refine ZB ?_
 exact oN [0] rfl rfl (⟨rfl,by simp[BR.fill,BR.eW,eu,qP,h4]⟩);have h4:¬4≤s.off:=Om;have h8:=h8 Om Om;refine A2 ?_;refine Zo (fun mz ρ l=>∃j:Nat,mz=s.off-j∧(j≤s.off)∧ρ=[(0,Vp b o)]∧l=[⟨b,o,[Vs bi (so+k) len cap,Vd ((BR.loads xs k j s).off),Vd ((BR.loads xs k j s).val),Va ((BR.loads xs k j s).rd)],sh⟩]) ⟨0,rfl,Om,rfl,rfl⟩ ?_;rintro _ _ _ ⟨j,rfl,hj,rfl,rfl⟩;have ho1:=BR.jN (xs:=xs) (k:=k) (s:=s) j;have FE:=BR.mj (xs:=xs) (k:=k) (s:=s) j;have wc:=(BR.OK.loads (xs:=xs) (k:=k) h j).val;have rK:=hx.at_ (k+((BR.loads xs k j s).off-1));refine A5 ?_;refine Zc (fun h3=>?_) (fun h3=>?_);refine A3 ?_
 refine Zg 33554432 [bE,bB,bG,ic,dr,bR,cw,nZ,cJ,dK,ch,kL,dU,dE,vi,eS,iq,jG,rW,zr,jV,kM,kk,wo,wq,BX] ?_;refine Xl ?_;exact Zb ⟨j+1,rfl,Om,rfl,rfl⟩;refine A4 ?_;exact dH [0] rfl rfl (⟨rfl,by simp[BR.fill,eu,qP,h4,show j=s.off by omega]⟩)
theorem dD (iv:Value) (len:Nat) (b o:Nat) (sh:cp) (s:BR) (h:s.OK len) (h0:s.off=0) (ux:s.rd=64) (hz:len≤1152921504606846976):aI Tryz.prog 67 [Vp b o] [⟨b,o,[iv,Vd s.off,Vd s.val,Va s.rd],sh⟩] [] (fun v l'=>v=.nilIface∧l'=[⟨b,o,eu Vn s,sh⟩]):=by
 refine Zi Tryz.func67 rfl fun w0=>?_
 refine G.seq ?_;have lu:=h.off;have gB:=h.val;have kD:=h.rd;have hlf:s.left=0:=by simp[BR.left,h0,ux]
 refine A5 ?_;refine cg [0] [] (lH Vn _ b o sh s Oa Om Om) rfl ?_;refine A2 ?_;refine Zc (fun h1=>?_) (fun h1=>?_)
 exfalso;omega
 refine A6 ?_;refine Zc (fun h2=>?_) (fun h2=>?_)
 exfalso;omega
 refine A3 ?_;repeat first|refine ZR ?_|refine ZB ?_
 exact ck [0] rfl rfl rfl (⟨rfl,rfl⟩)
theorem dV (bi so:Nat) (bV:cp) (xs:List Nat) (k len cap:Nat) (hc:len≤cap) (hk:k+len≤xs.length) (hz:xs.length≤1152921504606846976) (hx:Bytes xs) (h1:1≤len) (hv:0<xs.getD (k+(len-1)) 0) (b o:Nat) (sh:cp) (c0 c1 c2 c3:Value):aI Tryz.prog 62 [Vp b o,Vs bi (so+k) len cap] [⟨b,o,[c0,c1,c2,c3],sh⟩] [⟨bi,so,(aa .u8 xs),bV⟩] (fun v l'=>v=.nilIface∧l'=[⟨b,o,eu (Vs bi (so+k) len cap) (BR.init 4 xs k len),sh⟩]):=by
 refine Zi Tryz.func62 rfl fun w0=>?_
 refine G.seq ?_;have hs0:BR.OK len ⟨len,0,64⟩:=⟨Nat.le_refl _,Oi,Oi⟩;have hlb:=hx.at_ (k+(len-1));have U':aq (xs.getD (k+(len-1)) 0)≤8:=xZ _ hlb;have A0:=BR.OK.fill (t:=4) (xs:=xs) (k:=k) hs0;have FL:=BR.OK.fill (t:=4) (xs:=xs) (k:=k) A0;refine A5 ?_
 focus
  refine Zc (fun h1=>?_) (fun h1=>?_)
  exfalso;omega
  refine Xk ?_;refine Zc (fun h2=>?_) (fun h2=>?_)
  exfalso;omega
  refine A2 ?_;refine Ys (gN 0 3 gh.h) ?_;refine A2 ?_;refine Ys (gN 0 2 AI.h) ?_;refine A4 ?_;refine Zc (fun hq=>?_) (fun hq=>?_);have h8:8≤len:=Om;have hs8:BR.OK len (⟨(⟨len,0,64⟩:BR).off-8,mg xs (k+((⟨len,0,64⟩:BR).off-8)),0⟩:BR):=⟨Oi,m9 hx _,Oi⟩;refine A1 ?_;refine cg [0] [0] (oz bi so bV xs k len cap Om Om Om b o sh (⟨len,0,64⟩:BR) Oa Oa Om) rfl ?_;refine A2 ?_;refine cg [] [] (dz (xs.getD (k+(len-1)) 0) Om Om) rfl ?_;refine A2 ?_
  refine cg [0] [] (ag (Vs bi (so+k) len cap) _ b o sh (⟨(⟨len,0,64⟩:BR).off-8,mg xs (k+((⟨len,0,64⟩:BR).off-8)),0⟩:BR) Oa (8-(aq (xs.getD (k+(len-1)) 0)-1)) Om) rfl ?_;rotate_left;have h8:¬8≤len:=Om;have e1:(⟨len,0,64⟩:BR).rd=64:=rfl;have e2:(⟨len,0,64⟩:BR).off=len:=rfl;have hf1:=BR.Jk (t:=4) (xs:=xs) (k:=k) (s:=⟨len,0,64⟩) Oi;have hf2:=BR.rE (t:=4) (xs:=xs) (k:=k) (len:=len) Om Om;refine A1 ?_;refine cg [0] [0] (uc bi so bV xs k len cap Om Om Om b o sh (⟨len,0,64⟩:BR) Oa Oa Om Om) rfl ?_;refine A1 ?_
  refine cg [0] [0] (uc bi so bV xs k len cap Om Om Om b o sh (BR.fill 4 xs k (⟨len,0,64⟩:BR)) Oa Oa Om Om) rfl ?_;refine A2 ?_;refine cg [] [] (dz (xs.getD (k+(len-1)) 0) Om Om) rfl ?_;refine A2 ?_;refine cg [0] [] (ag (Vs bi (so+k) len cap) _ b o sh (BR.fill 4 xs k (BR.fill 4 xs k (⟨len,0,64⟩:BR))) Oa (8-(aq (xs.getD (k+(len-1)) 0)-1)) Om) rfl ?_;rotate_left;all_goals
   refine A3 ?_;repeat first|refine ZR ?_|refine ZB ?_
   exact ck [0] rfl rfl rfl (⟨rfl,by simp[BR.init,BR.start,eu,h8]⟩)
theorem kN (bi so:Nat) (bV:cp) (xs:List Nat) (k len cap:Nat) (hc:len≤cap) (hk:k+len≤xs.length) (hz:xs.length≤1152921504606846976) (b o:Nat) (sh:cp) (s:BR) (h:s.OK len) (hx:Bytes xs) (h4:32≤s.rd→4≤s.off) (hr:s.rd≤64):aI Tryz.prog 91 [Vp b o] [⟨b,o,[Vs bi (so+k) len cap,Vd s.off,Vd s.val,Va s.rd],sh⟩] [⟨bi,so,(aa .u8 xs),bV⟩] (fun v l'=>v=.tuple #[]∧l'=[⟨b,o,eu (Vs bi (so+k) len cap) (BR.jd xs k s),sh⟩]):=by
 refine Zi Tryz.func91 rfl fun w0=>?_
 refine G.seq (G.seq ?_);have lu:=h.off;have gB:=h.val;have kD:=h.rd;refine A5 ?_;refine Zc (fun h1=>?_) (fun h1=>?_);have qP:s.rd<32:=Om;refine A1 ?_;repeat first|refine ZR ?_|refine ZB ?_
 exact oN [0] rfl rfl (⟨rfl,by simp[BR.jd,BR.ke,eu,qP]⟩);have qP:¬s.rd<32:=Om;have h4:=h4 Om;have eU:=dJ hx (k+(s.off-4));have Aw:=hx.at_ (k+(s.off-4));have rK:=hx.at_ (k+(s.off-4)+1);have nU:=hx.at_ (k+(s.off-4)+2);have uy:=hx.at_ (k+(s.off-4)+3);refine A2 ?_;refine Zg 0 [bE,bB,bG,ic,dr,bR,cw,nZ,cJ,dK,ch] ?_;refine A6 ?_;refine aN (de (q':=so+(k+(s.off-4))) (lo:=s.off-4) rfl rfl rfl ak.h Om Om) ?_;refine A5 ?_;refine Zg 0 [bE,bB,Mf,cW,dr,bR,rf,cN,cJ,dK,ch,eg,vh,dE,eI,eS,iq,jG,vj,nF,jV,kM,kk] ?_;refine A4 ?_;refine aN (Zx (so+(k+(s.off-4)+1)) 1 ak.h) ?_;refine A2 ?_
 refine aN (cl (xs.getD (k+(s.off-4)+1) 0) 8) ?_;refine A1 ?_;refine aN (Zx (so+(k+(s.off-4)+2)) 2 ak.h) ?_;refine A2 ?_;refine aN (cl (xs.getD (k+(s.off-4)+2) 0) 16) ?_;refine aN (du (m:=(xs.getD (k+(s.off-4)) 0)|||((xs.getD (k+(s.off-4)+1) 0)*2^8%4294967296)) (n:=(xs.getD (k+(s.off-4)+2) 0)*2^16%4294967296) rfl rfl rfl (bD Om Om) Om) ?_;refine aN (Zx (so+(k+(s.off-4)+3)) 3 ak.h) ?_;refine A2 ?_;refine aN (cl (xs.getD (k+(s.off-4)+3) 0) 24) ?_
 refine aN (Zq (eR xs (k+(s.off-4))) (du (m:=((xs.getD (k+(s.off-4)) 0)|||((xs.getD (k+(s.off-4)+1) 0)*2^8%4294967296))|||((xs.getD (k+(s.off-4)+2) 0)*2^16%4294967296)) (n:=(xs.getD (k+(s.off-4)+3) 0)*2^24%4294967296) rfl rfl rfl (bD (bD Om Om) Om) Om) (by simp[eR])) ?_;refine A23 ?_;exact dH [0] rfl rfl (⟨rfl,by simp[BR.jd,BR.ke,eu,qP]⟩)
theorem ud (bi so:Nat) (bV:cp) (xs:List Nat) (k len cap:Nat) (hc:len≤cap) (hk:k+len≤xs.length) (hz:xs.length≤1152921504606846976) (b o:Nat) (sh:cp) (s:BR) (h:s.OK len) (hx:Bytes xs) (h8:8≤s.off):aI Tryz.prog 124 [Vp b o] [⟨b,o,[Vs bi (so+k) len cap,Vd s.off,Vd s.val,Va s.rd],sh⟩] [⟨bi,so,(aa .u8 xs),bV⟩] (fun v l'=>v=.tuple #[]∧l'=[⟨b,o,eu (Vs bi (so+k) len cap) (⟨s.off-8,mg xs (k+(s.off-8)),0⟩:BR),sh⟩]):=by
 refine Zi Tryz.func124 rfl fun w0=>?_
 refine A1 ?_;have lu:=h.off;have gB:=h.val;have kD:=h.rd;refine Zg 36864 [bE,r_1,bG,cW,dr,Lh,cw,cN,cJ,BY,ch,eg,Lf,dE,eI,Eg] ?_;refine A1 ?_;refine j8 (aG.zf (Jh rfl rfl BZ.h B1.h)) ?_;refine A5 ?_;refine aN (de (q':=so+(k+(s.off-8))) (lo:=s.off-8) rfl rfl rfl ak.h Om Om) ?_;refine et [] [1] (Ep bi so bV xs Oa (k+(s.off-8)) (len-(s.off-8)) (cap-(s.off-8)) Om Om) rfl ?_;refine A7 ?_;refine Ys (gN 0 3 gh.h) ?_;refine A7 ?_;exact dH [0] rfl rfl (⟨rfl,rfl⟩)
theorem ue (bi so:Nat) (bV:cp) (xs:List Nat) (k len cap:Nat) (hc:len≤cap) (hk:k+len≤xs.length) (hz:xs.length≤1152921504606846976) (b o:Nat) (sh:cp) (s:BR) (h:s.OK len) (hx:Bytes xs) (hr:s.rd≤64) (h8:32≤s.rd→s.off<5→8*s.off≤s.rd):aI Tryz.prog 96 [Vp b o] [⟨b,o,[Vs bi (so+k) len cap,Vd s.off,Vd s.val,Va s.rd],sh⟩] [⟨bi,so,(aa .u8 xs),bV⟩] (fun v l'=>v=.tuple #[]∧l'=[⟨b,o,eu (Vs bi (so+k) len cap) (BR.eE xs k s),sh⟩]):=by
 refine Zi Tryz.func96 rfl fun w0=>?_
 refine G.seq (G.seq ?_);have lu:=h.off;have gB:=h.val;have kD:=h.rd;refine A5 ?_;refine Zc (fun h1=>?_) (fun h1=>?_);have qP:s.rd<32:=Om;refine A1 ?_;repeat first|refine ZR ?_|refine ZB ?_
 exact oN [0] rfl rfl (⟨rfl,by simp[BR.eE,eu,qP]⟩);have qP:¬s.rd<32:=Om;refine A6 ?_;refine Zc (fun h2=>?_) (fun h2=>?_);have h4:4<s.off:=Om;have eU:=dJ hx (k+(s.off-4));have Aw:=hx.at_ (k+(s.off-4));have rK:=hx.at_ (k+(s.off-4)+1);have nU:=hx.at_ (k+(s.off-4)+2);have uy:=hx.at_ (k+(s.off-4)+3);refine A1 ?_;refine Zg 0 [bE,bB,bG,ic,dr,bR,cw,nZ,cJ,dK,ch] ?_;refine A6 ?_;refine aN (de (q':=so+(k+(s.off-4))) (lo:=s.off-4) rfl rfl rfl ak.h Om Om) ?_;refine A5 ?_;refine Zg 0 [bE,bB,Mf,cW,dr,bR,rf,cN,cJ,dK,ch,eg,vh,dE,eI,eS,iq,jG,vj,nF,jV,kM,kk] ?_;refine A4 ?_
 refine aN (Zx (so+(k+(s.off-4)+1)) 1 ak.h) ?_;refine A2 ?_;refine aN (cl (xs.getD (k+(s.off-4)+1) 0) 8) ?_;refine A1 ?_;refine aN (Zx (so+(k+(s.off-4)+2)) 2 ak.h) ?_;refine A2 ?_;refine aN (cl (xs.getD (k+(s.off-4)+2) 0) 16) ?_;refine aN (du (m:=(xs.getD (k+(s.off-4)) 0)|||((xs.getD (k+(s.off-4)+1) 0)*2^8%4294967296)) (n:=(xs.getD (k+(s.off-4)+2) 0)*2^16%4294967296) rfl rfl rfl (bD Om Om) Om) ?_;refine aN (Zx (so+(k+(s.off-4)+3)) 3 ak.h) ?_;refine A2 ?_;refine aN (cl (xs.getD (k+(s.off-4)+3) 0) 24) ?_
 refine aN (Zq (eR xs (k+(s.off-4))) (du (m:=((xs.getD (k+(s.off-4)) 0)|||((xs.getD (k+(s.off-4)+1) 0)*2^8%4294967296))|||((xs.getD (k+(s.off-4)+2) 0)*2^16%4294967296)) (n:=(xs.getD (k+(s.off-4)+3) 0)*2^24%4294967296) rfl rfl rfl (bD (bD Om Om) Om) Om) (by simp[eR])) ?_;refine A24 ?_;repeat first|refine ZR ?_|refine ZB ?_
 exact oN [0] rfl rfl (⟨rfl,by simp[BR.eE,BR.ke,eu,qP,h4]⟩);have h4:¬4<s.off:=Om;have h8:=h8 Om Om;refine A2 ?_;refine Zo (fun mz ρ l=>∃j:Nat,mz=s.off-j∧(j≤s.off)∧((BR.floads xs k j s).val<18446744073709551616)∧ρ=[(0,Vp b o)]∧l=[⟨b,o,[Vs bi (so+k) len cap,Vd ((BR.floads xs k j s).off),Vd ((BR.floads xs k j s).val),Va ((BR.floads xs k j s).rd)],sh⟩]) ⟨0,rfl,Om,gB,rfl,rfl⟩ ?_;rintro _ _ _ ⟨j,rfl,hj,wc,rfl,rfl⟩;have ho1:=BR.jP (xs:=xs) (k:=k) (s:=s) j;have FE:=BR.qf (xs:=xs) (k:=k) (s:=s) j;have rK:=hx.at_ (k+((BR.floads xs k j s).off-1));refine A5 ?_;refine Zc (fun h3=>?_) (fun h3=>?_)
 refine A3 ?_;refine Zg 2097152 [bE,bB,bG,cW,gZ,bR,cw,cN,cJ,BY,ch,eg,dU,ac4,eI,eS,aj5,jG,rW,nF,jV,ac3] ?_;refine A31 ?_;exact Zb ⟨j+1,rfl,Om,cq (Nat.mod_lt _ Od) Om,rfl,rfl⟩ (hs:=rfl);refine A4 ?_;exact dH [0] rfl rfl (⟨rfl,by simp[BR.eE,eu,qP,h4,show j=s.off by omega]⟩)
theorem oa (iv:Value) (len:Nat) (b o:Nat) (sh:cp) (s:BR) (h:s.OK len) (n:Nat) (hn:n≤64) (hr:s.rd≤64):aI Tryz.prog 126 [Vp b o,Va n] [⟨b,o,[iv,Vd s.off,Vd s.val,Va s.rd],sh⟩] [] (fun v l'=>v=Vb (s.mq n)∧l'=[⟨b,o,eu (iv) (s.fm n),sh⟩]):=by
 refine Zi Tryz.func126 rfl fun w0=>?_
 refine A2 ?_;have lu:=h.off;have gB:=h.val;have kD:=h.rd;refine Zg 0 [bE,bB,bG,ic,dr,bR,cw,nZ,cJ,dK,ch,eg,dU,dE,eI,eS] ?_;refine Xk ?_;refine Yy (vf s.rd n) ?_;refine A5 ?_;repeat first|refine ZR ?_|refine ZB ?_
 exact ck [0] rfl rfl rfl (⟨rfl,rfl⟩)
theorem vS (iv:Value) (len:Nat) (b o:Nat) (sh:cp) (s:BR) (h:s.OK len) (n:Nat) (hn:n≤16) (h1:n≠0→s.rd<64) (hr:s.rd≤64):aI Tryz.prog 125 [Vp b o,Va n] [⟨b,o,[iv,Vd s.off,Vd s.val,Va s.rd],sh⟩] [] (fun v l'=>v=Vb (s.tG n)∧l'=[⟨b,o,eu (iv) (s.fm n),sh⟩]):=by
 refine Zi Tryz.func125 rfl fun w0=>?_
 refine A1 ?_;refine bM (G.seq ?_);have lu:=h.off;have gB:=h.val;have kD:=h.rd;refine A1 ?_;refine Zy (JX n 0) ?_;refine Za 1 ?_;refine GL.split (t:=7) (p:=((n:Nat):Int)=((0:Nat):Int)) rfl (fun hn0=>?_) (fun hn0=>?_);refine A6 ?_;repeat first|refine ZR ?_|refine ZB ?_
 exact ck [0] rfl rfl rfl (⟨int_eq (by unfold BR.tG;rw[if_pos Om];rfl),by rw[show n=0 by omega,BR.OG kD];rfl⟩);refine A5 ?_;refine G.eK rfl (by have:=h1 Om;omega) ?_;refine A1 ?_;refine cg [0] [] (oa (iv) _ b o sh s Oa n Om Om) rfl ?_;refine A3 ?_;repeat first|refine ZR ?_|refine ZB ?_
 exact ck [0] rfl rfl rfl (⟨int_eq (by unfold BR.tG;rw[if_neg Om]),rfl⟩)
theorem B7 (iv:Value) (len:Nat) (b o:Nat) (sh:cp) (s:BR) (h:s.OK len):aI Tryz.prog 127 [Vp b o] [⟨b,o,[iv,Vd s.off,Vd s.val,Va s.rd],sh⟩] [] (fun v l'=>v=.bool (decide (64≤s.rd∧s.off=0))∧l'=[⟨b,o,eu (iv) s,sh⟩]):=by
 refine Zi Tryz.func127 rfl fun w0=>?_
 refine A1 ?_;refine bM ?_;have lu:=h.off;have gB:=h.val;have kD:=h.rd;refine A3 ?_;refine Zy (uA s.rd 64) ?_;refine Za 1 ?_;refine GL.split (t:=8) (p:=((64:Nat):Int)≤((s.rd:Nat):Int)) rfl (fun h1=>?_) (fun h1=>?_);refine A6 ?_;repeat first|refine ZR ?_|refine ZB ?_
 exact ck [0] rfl rfl rfl (⟨congrArg Value.bool (decide_eq_decide.2 Om),rfl⟩);refine A3 ?_;repeat first|refine ZR ?_|refine ZB ?_
 exact ck [0] rfl rfl rfl (⟨congrArg Value.bool ((decide_eq_false Om).symm),rfl⟩)
theorem vl (iv:Value) (len:Nat) (b o:Nat) (sh:cp) (s:BR) (h:s.OK len) (hr:s.rd≤64):aI Tryz.prog 97 [Vp b o] [⟨b,o,[iv,Vd s.off,Vd s.val,Va s.rd],sh⟩] [] (fun v l'=>v=.nilIface∧l'=[⟨b,o,eu Vn s,sh⟩]):=by
 refine Zi Tryz.func97 rfl fun w0=>?_
 refine G.seq ?_;have lu:=h.off;have gB:=h.val;have kD:=h.rd;refine A9 ?_;refine Zc (fun h1=>?_) (fun h1=>?_)
 exfalso;omega
 refine A3 ?_;repeat first|refine ZR ?_|refine ZB ?_
 exact ck [0] rfl rfl rfl (⟨rfl,rfl⟩)
theorem PV (bi so:Nat) (bV:cp) (xs:List Nat) (k len cap:Nat) (hc:len≤cap) (hk:k+len≤xs.length) (hz:xs.length≤1152921504606846976) (hx:Bytes xs) (h1:1≤len) (hv:0<xs.getD (k+(len-1)) 0) (b o:Nat) (sh:cp) (c0 c1 c2 c3:Value):aI Tryz.prog 88 [Vp b o,Vs bi (so+k) len cap] [⟨b,o,[c0,c1,c2,c3],sh⟩] [⟨bi,so,(aa .u8 xs),bV⟩] (fun v l'=>v=.nilIface∧l'=[⟨b,o,eu (Vs bi (so+k) len cap) (BR.gd xs k len),sh⟩]):=by
 refine Zi Tryz.func88 rfl fun w0=>?_
 refine G.seq ?_;have hs0:BR.OK len ⟨len,0,64⟩:=⟨Nat.le_refl _,Oi,Oi⟩;have hlb:=hx.at_ (k+(len-1));have U':aq (xs.getD (k+(len-1)) 0)≤8:=xZ _ hlb;have J2:gR xs k len ⟨len,0,64⟩ (8*len) (tailV xs k len):=⟨hs0,Oi,Oi,Oi⟩;refine A5 ?_
 focus
  refine Zc (fun h1=>?_) (fun h1=>?_)
  exfalso;omega
  refine Xk ?_;refine Zc (fun h2=>?_) (fun h2=>?_)
  exfalso;omega
  refine A2 ?_;refine Ys (gN 0 3 gh.h) ?_;refine A2 ?_;refine Ys (gN 0 2 AI.h) ?_;refine A4 ?_;refine Zc (fun hq=>?_) (fun hq=>?_);have h8:8≤len:=Om;have hs8:BR.OK len (⟨(⟨len,0,64⟩:BR).off-8,mg xs (k+((⟨len,0,64⟩:BR).off-8)),0⟩:BR):=⟨Oi,m9 hx _,Oi⟩;refine A1 ?_;refine cg [0] [0] (ud bi so bV xs k len cap Om Om Om b o sh (⟨len,0,64⟩:BR) Oa Oa Om) rfl ?_;refine A1 ?_;refine Zh 4160 (YS 0 (YS 1 (YS 2 (YS 4 (YS 5 (.er 3 (YE 6 (YS 7 (YS 8 (YS 9 (YS 10 (YS 11 (YF 12 .nil)))))) .stop) (YE 6 (YS 7 (YS 8 (.st 3 true (YS 9 (YS 10 (YS 11 (YF 12 .nil))))))) .stop))))))) ?_;refine A3 ?_
  refine GT.er (cU 0 3 rfl rfl rfl cM.h rfl rfl) rfl rfl rfl rfl ?_ ?_;refine fx [] [] (fu (xs.getD (k+(len-1)) 0) Om Om) rfl ?_ GT.stop;refine CK ?_;rotate_left;refine fx [] [] (fu (xs.getD (k+(len-1)) 0) Om Om) rfl ?_ GT.stop;refine vR ?_;rotate_left;have h8:¬8≤len:=Om;have e1:(⟨len,0,64⟩:BR).rd=64:=rfl;have e2:(⟨len,0,64⟩:BR).off=len:=rfl;obtain⟨Ao,hQ1,wQ⟩:=J2.eE hx (fun _ _=>Oz);have hf2:=BR.vC (xs:=xs) (k:=k) (len:=len) Om;have A0:=Ao.ok;have WJ:=Ao.rd;obtain⟨AK,hQ2,vm⟩:=Ao.eE hx (fun _ _=>hf2);have FL:=AK.ok;have adt:=AK.rd;refine A1 ?_
  refine cg [0] [0] (ue bi so bV xs k len cap Om Om Om b o sh (⟨len,0,64⟩:BR) Oa Oa Om Om) rfl ?_;refine A1 ?_;refine cg [0] [0] (ue bi so bV xs k len cap Om Om Om b o sh (BR.eE xs k (⟨len,0,64⟩:BR)) Oa Oa Om Om) rfl ?_;refine A1 ?_;refine Zh 4160 (YS 0 (YS 1 (YS 2 (YS 4 (YS 5 (.er 3 (YE 6 (YS 7 (YS 8 (YS 9 (YS 10 (YS 11 (YF 12 .nil)))))) .stop) (YE 6 (YS 7 (YS 8 (.st 3 true (YS 9 (YS 10 (YS 11 (YF 12 .nil))))))) .stop))))))) ?_;refine A3 ?_;refine GT.er (cU 0 3 rfl rfl rfl cM.h rfl rfl) rfl rfl rfl rfl ?_ ?_;refine fx [] [] (fu (xs.getD (k+(len-1)) 0) Om Om) rfl ?_ GT.stop;refine A2 ?_
  refine wO (vf ((BR.eE xs k (BR.eE xs k (⟨len,0,64⟩:BR))).rd) (8-(aq (xs.getD (k+(len-1)) 0)-1))) ?_;refine A7 ?_;rotate_left;refine fx [] [] (fu (xs.getD (k+(len-1)) 0) Om Om) rfl ?_ GT.stop;refine A3 ?_;refine wO (vf ((BR.eE xs k (BR.eE xs k (⟨len,0,64⟩:BR))).rd) (8-(aq (xs.getD (k+(len-1)) 0)-1))) ?_;refine A7 ?_;rotate_left;all_goals
   repeat first|refine ZR ?_|refine ZB ?_
   exact ck [0] rfl rfl rfl (⟨rfl,by simp[BR.gd,BR.nc,eu,h8]⟩)
theorem iH (bi so:Nat) (bV:cp) (xs:List Nat) (k len cap:Nat) (hc:len≤cap) (hk:k+len≤xs.length) (hz:xs.length≤1152921504606846976) (p:Nat) (hp:p≤len):aI Tryz.prog 82 [.agg #[Vs bi (so+k) len cap,Vh p]] [] [⟨bi,so,(aa .u8 xs),bV⟩] (fun v l'=>v=Vh (len-p)∧l'=[]):=by
 refine Zi Tryz.func82 rfl fun w0=>?_
 refine A1 ?_;refine Ze (jJ rfl rfl rfl rfl rfl) fun b1=>?_
 refine CK ?_;repeat first|refine ZR ?_|refine ZB ?_
 exact ck [] rfl rfl rfl (⟨rfl,rfl⟩)
theorem nH (bi so:Nat) (bV:cp) (xs:List Nat) (k len cap:Nat) (hc:len≤cap) (hk:k+len≤xs.length) (hz:xs.length≤1152921504606846976) (p:Nat) (hx:Bytes xs) (hp:p+4≤len):aI Tryz.prog 83 [.agg #[Vs bi (so+k) len cap,Vh p]] [] [⟨bi,so,(aa .u8 xs),bV⟩] (fun v l'=>v=Vc (eR xs (k+p))∧l'=[]):=by
 refine Zi Tryz.func83 rfl fun w0=>?_
 refine A1 ?_;refine Ze (jJ rfl rfl rfl rfl rfl) fun b1=>?_
 refine A1 ?_;refine bM ?_;have Aw:=hx.at_ (k+p);have rK:=hx.at_ (k+p+1);have nU:=hx.at_ (k+p+2);have uy:=hx.at_ (k+p+3);refine A5 ?_;refine Yy (de (q':=so+(k+p)) (lo:=p) rfl rfl rfl ak.h Om Om) ?_;refine A3 ?_;refine Yy (Zx (so+(k+p+3)) 3 ak.h) ?_;refine A3 ?_;refine Yy (Zx (so+(k+p+2)) 2 ak.h) ?_;refine A3 ?_;refine Yy (Zx (so+(k+p+1)) 1 ak.h) ?_;refine A7 ?_;refine Yy (cl (xs.getD (k+p+1) 0) 8) ?_;refine A1 ?_;refine Yy (cl (xs.getD (k+p+2) 0) 16) ?_
 refine Yy (du (m:=(xs.getD (k+p) 0)|||((xs.getD (k+p+1) 0)*2^8%4294967296)) (n:=(xs.getD (k+p+2) 0)*2^16%4294967296) rfl rfl rfl (bD Om Om) Om) ?_;refine Yy (cl (xs.getD (k+p+3) 0) 24) ?_;refine Yy (Zq (eR xs (k+p)) (du (m:=((xs.getD (k+p) 0)|||((xs.getD (k+p+1) 0)*2^8%4294967296))|||((xs.getD (k+p+2) 0)*2^16%4294967296)) (n:=(xs.getD (k+p+3) 0)*2^24%4294967296) rfl rfl rfl (bD (bD Om Om) Om) Om) (by simp[eR])) ?_;refine A2 ?_;repeat first|refine ZR ?_|refine ZB ?_
 exact ck [] rfl rfl rfl (⟨rfl,rfl⟩)
theorem GO (bi so:Nat) (bV:cp) (xs:List Nat) (k len cap:Nat) (hc:len≤cap) (hk:k+len≤xs.length) (hz:xs.length≤1152921504606846976) (p:Nat) (hp:p<len):aI Tryz.prog 89 [.agg #[Vs bi (so+k) len cap,Vh p]] [] [⟨bi,so,(aa .u8 xs),bV⟩] (fun v l'=>v=Vs bi (so+(k+p)) (len-p) (cap-p)∧l'=[]):=by
 refine Zi Tryz.func89 rfl fun w0=>?_
 refine A1 ?_;refine Ze (jJ rfl rfl rfl rfl rfl) fun b1=>?_
 refine A6 ?_;refine Yy (de (q':=so+(k+p)) (lo:=p) rfl rfl rfl ak.h Om Om) ?_;refine A2 ?_;repeat first|refine ZR ?_|refine ZB ?_
 exact ck [] rfl rfl rfl (⟨rfl,rfl⟩)
theorem px (iv:Value) (b o:Nat) (sh:cp) (p n:Nat) (hp:p+n<9223372036854775808):aI Tryz.prog 84 [Vp b o,Vd n] [⟨b,o,[iv,Vh p],sh⟩] [] (fun v l'=>v=.tuple #[]∧l'=[⟨b,o,[iv,Vh (p+n)],sh⟩]):=by
 refine Zi Tryz.func84 rfl fun w0=>?_
 refine A8 ?_;exact dH [0] rfl rfl (⟨rfl,rfl⟩)
theorem Es (c0 c1:Value) (q:Option Addr) (n c b o:Nat) (sh:cp):aI Tryz.prog 81 [Vp b o,.slice q n c] [⟨b,o,[c0,c1],sh⟩] [] (fun v l'=>v=.tuple #[]∧l'=[⟨b,o,[.slice q n c,Vh 0],sh⟩]):=by
 refine Zi Tryz.func81 rfl fun w0=>?_
 refine A5 ?_;refine Ys (gN 0 1 B3.h) ?_;refine A1 ?_;exact dH [0] rfl rfl (⟨rfl,rfl⟩)
theorem vT (n:Nat) (hn:n≤4096):aI Tryz.prog 86 [Vc n] [] [] (fun v l'=>v=Vc (n/2^1+n/2^3+3)∧l'=[]):=by
 refine Zi Tryz.func86 rfl fun w0=>?_
 refine A8 ?_;repeat first|refine ZR ?_|refine ZB ?_
 exact ck [] rfl rfl rfl (⟨rfl,rfl⟩)
theorem B8 (bt ot tn an:Nat) (gz:cp) (T:List (Nat × Nat × Nat)) (B9:tn≤T.length) (bd od:Nat) (sL:cp) (a:Nat) (iv:Value) (len:Nat) (b o:Nat) (sh:cp) (s:BR) (h:s.OK len) (ha:a<tn) (hbs:(T.getD a (0,0,0)).2.2+s.mq (T.getD a (0,0,0)).2.1<65536) (hbn:(T.getD a (0,0,0)).2.1≤16) (hr:s.rd≤64):aI Tryz.prog 92 [Vp bd od] [⟨bd,od,[Vb a,Vp b o,Vs bt ot tn an],sL⟩,⟨b,o,[iv,Vd s.off,Vd s.val,Va s.rd],sh⟩] [⟨bt,ot,(rows fD T),gz⟩] (fun v l'=>v=Va ((T.getD a (0,0,0)).1)∧l'=[⟨bd,od,[Vb ((T.getD a (0,0,0)).2.2+s.mq (T.getD a (0,0,0)).2.1),Vp b o,Vs bt ot tn an],sL⟩,⟨b,o,eu iv (s.fm (T.getD a (0,0,0)).2.1),sh⟩]):=by
 refine Zi Tryz.func92 rfl fun w0=>?_
 refine A2 ?_;refine Zh 3072 (YS 0 (YS 1 (YS 2 (YS 4 (YS 5 (YS 6 (.er 3 (.er 7 (YS 8 (.er 9 (YF 10 (YF 11 .nil)) (YF 10 (.st 9 true (YF 11 .nil))))) (YF 10 (.st 7 true (YS 8 (.st 9 true (YF 11 .nil)))))) (.er 7 (.er 3 (YS 8 (.er 9 (YF 10 (YF 11 .nil)) (YF 10 (.st 9 true (YF 11 .nil))))) (YF 10 (.st 3 true (YS 8 (.st 9 true (YF 11 .nil)))))) (YE 10 (.st 3 true (.st 7 true (YS 8 (.st 9 true (YF 11 .nil))))) .stop))))))))) ?_;refine A3 ?_
 focus
  refine GT.er (cU 0 2 rfl rfl rfl PD.h rfl rfl) rfl rfl rfl rfl ?_ ?_;refine GT.er (cU 0 0 rfl rfl rfl cQ.h rfl rfl) rfl rfl rfl rfl ?_ ?_;refine ZE (eQ (q':=ot+(a*3)) (m:=a) rfl rfl rfl jl.h Om Om) ?_;refine GT.er (av (vs:=fD (T.getD a (0,0,0))) 0 (a*3) rfl rfl rfl pr.h lO.h rfl (cG fo (0,0,0) Om) rfl) rfl rfl rfl rfl ?_ ?_;refine GT.dj (iD pt.h) rfl rfl ?_ GT.stop;rintro _ _ ⟨b1,rfl,rfl⟩;rotate_left;refine GT.dj (iD pt.h) rfl rfl ?_ GT.stop;rintro _ _ ⟨b2,rfl,rfl⟩;refine vd (av (vs:=fD (T.getD a (0,0,0))) 0 (a*3) rfl rfl rfl pr.h lO.h rfl (cG fo (0,0,0) Om) rfl) ?_;rotate_left
  refine GT.dj (iD pt.h) rfl rfl ?_ GT.stop;rintro _ _ ⟨b3,rfl,rfl⟩;refine A1 ?_;refine wO (eQ (q':=ot+(a*3)) (m:=a) rfl rfl rfl jl.h Om Om) ?_;refine vd (av (vs:=fD (T.getD a (0,0,0))) 0 (a*3) rfl rfl rfl pr.h lO.h rfl (cG fo (0,0,0) Om) rfl) ?_;rotate_left;refine GT.er (cU 0 0 rfl rfl rfl cQ.h rfl rfl) rfl rfl rfl rfl ?_ ?_;refine GT.er (cU 0 2 rfl rfl rfl PD.h rfl rfl) rfl rfl rfl rfl ?_ ?_;refine ZE (eQ (q':=ot+(a*3)) (m:=a) rfl rfl rfl jl.h Om Om) ?_;refine GT.er (av (vs:=fD (T.getD a (0,0,0))) 0 (a*3) rfl rfl rfl pr.h lO.h rfl (cG fo (0,0,0) Om) rfl) rfl rfl rfl rfl ?_ ?_
  refine GT.dj (iD pt.h) rfl rfl ?_ GT.stop;rintro _ _ ⟨b4,rfl,rfl⟩;rotate_left;refine GT.dj (iD pt.h) rfl rfl ?_ GT.stop;rintro _ _ ⟨b5,rfl,rfl⟩;refine vd (av (vs:=fD (T.getD a (0,0,0))) 0 (a*3) rfl rfl rfl pr.h lO.h rfl (cG fo (0,0,0) Om) rfl) ?_;rotate_left;refine GT.dj (iD pt.h) rfl rfl ?_ GT.stop;rintro _ _ ⟨b6,rfl,rfl⟩;refine A1 ?_;refine wO (eQ (q':=ot+(a*3)) (m:=a) rfl rfl rfl jl.h Om Om) ?_;refine vd (av (vs:=fD (T.getD a (0,0,0))) 0 (a*3) rfl rfl rfl pr.h lO.h rfl (cG fo (0,0,0) Om) rfl) ?_;rotate_left;refine GT.dj (iD pt.h) rfl rfl ?_ GT.stop;rintro _ _ ⟨b7,rfl,rfl⟩;refine A2 ?_
  refine wO (eQ (q':=ot+(a*3)) (m:=a) rfl rfl rfl jl.h Om Om) ?_;refine vd (av (vs:=fD (T.getD a (0,0,0))) 0 (a*3) rfl rfl rfl pr.h lO.h rfl (cG fo (0,0,0) Om) rfl) ?_;rotate_left;all_goals
   refine AD (im 0 lO.h) ?_;refine A3 ?_;refine Zg 64 [bE,bB,bG,ic,dr,Lh,e_6,cN] ?_;refine A5 ?_;refine et [2] [] (oa (iv) _ b o sh s Oa ((T.getD a (0,0,0)).2.1) Om Om) rfl ?_;refine Mg ?_;repeat first|refine ZR ?_|refine ZB ?_
   exact ck [2,0] rfl rfl rfl (⟨rfl,rfl⟩)
theorem PW (bt ot tn an:Nat) (gz:cp) (T:List (Nat × Nat × Nat)) (B9:tn≤T.length) (bd od:Nat) (sL:cp) (a:Nat) (iv:Value) (len:Nat) (b o:Nat) (sh:cp) (s:BR) (h:s.OK len) (ha:a<tn) (hbs:(T.getD a (0,0,0)).2.2+s.tG (T.getD a (0,0,0)).2.1<65536) (hbn:(T.getD a (0,0,0)).2.1≤16) (h1:(T.getD a (0,0,0)).2.1≠0→s.rd<64) (hr:s.rd≤64):aI Tryz.prog 93 [Vp bd od] [⟨bd,od,[Vb a,Vp b o,Vs bt ot tn an],sL⟩,⟨b,o,[iv,Vd s.off,Vd s.val,Va s.rd],sh⟩] [⟨bt,ot,(rows fD T),gz⟩] (fun v l'=>v=Va ((T.getD a (0,0,0)).1)∧l'=[⟨bd,od,[Vb ((T.getD a (0,0,0)).2.2+s.tG (T.getD a (0,0,0)).2.1),Vp b o,Vs bt ot tn an],sL⟩,⟨b,o,eu iv (s.fm (T.getD a (0,0,0)).2.1),sh⟩]):=by
 refine Zi Tryz.func93 rfl fun w0=>?_
 refine A2 ?_;refine Zg 0 [bE,bB,bG,ic,dr,bR,cw,nZ,cJ,dK] ?_;refine A5 ?_;refine aN (eQ (q':=ot+(a*3)) (m:=a) rfl rfl rfl jl.h Om Om) ?_;refine A3 ?_;refine Zg 256 [bE,bB,bG,ic,dr,bR,cw,nZ,FF,dK] ?_;refine A4 ?_;refine j8 (iO 0 (a*3+2) cM.h rfl (Jo Om)) ?_;refine et [1] [] (vS (iv) _ b o sh s Oa ((T.getD a (0,0,0)).2.1) Om Om Om) rfl ?_;refine A5 ?_;refine Yr (iO 0 (a*3) cQ.h rfl (Wm Om)) ?_;refine A5 ?_;refine Yr (iO 0 (a*3+1) cM.h rfl (Jn Om)) ?_;refine A2 ?_;repeat first|refine ZR ?_|refine ZB ?_
 exact ck [1,0] rfl rfl rfl (⟨rfl,rfl⟩)
theorem B' (bt ot tn an:Nat) (gz:cp) (T:List (Nat × Nat × Nat)) (B9:tn≤T.length) (bd od:Nat) (sL:cp) (a:Nat) (iv:Value) (len:Nat) (b o:Nat) (sh:cp) (s:BR) (h:s.OK len) (ha:a<tn):aI Tryz.prog 94 [Vp bd od] [⟨bd,od,[Vb a,Vp b o,Vs bt ot tn an],sL⟩,⟨b,o,[iv,Vd s.off,Vd s.val,Va s.rd],sh⟩] [⟨bt,ot,(rows fD T),gz⟩] (fun v l'=>v=.bool (decide ((64≤s.rd∧s.off=0)∧0<(T.getD a (0,0,0)).2.1))∧l'=[⟨bd,od,[Vb a,Vp b o,Vs bt ot tn an],sL⟩,⟨b,o,eu iv s,sh⟩]):=by
 refine Zi Tryz.func94 rfl fun w0=>?_
 refine A2 ?_;refine Zg 16 [bE,bB,bG,ic,e_4,bR,cw,cN,cJ,BY,ch,eg,dU,ac4,eI,eS,aj5,jG,rW,nF] ?_;refine A3 ?_;refine et [1] [] (B7 (iv) _ b o sh s Oa) rfl ?_;refine Zpa 1 ?_;refine GP.split (t:=8) (p:=64≤s.rd∧s.off=0) rfl (fun h1=>?_) (fun h1=>?_);refine A5 ?_;refine aN (eQ (q':=ot+(a*3)) (m:=a) rfl rfl rfl jl.h Om Om) ?_;refine A1 ?_;refine j8 (iO 0 (a*3+2) cM.h rfl (Jo Om)) ?_;refine A4 ?_;repeat first|refine ZR ?_|refine ZB ?_
 exact ck [1,0] rfl rfl rfl (⟨congrArg Value.bool (decide_eq_decide.2 Om),rfl⟩);refine Zpa 3 ?_;refine GP.ME rfl rfl rfl rfl ?_;refine Zpa 3 ?_;refine GP.ME rfl rfl rfl rfl ?_;refine Zpa 2 ?_;refine GP.ME rfl rfl rfl rfl ?_;refine A4 ?_;repeat first|refine ZR ?_|refine ZB ?_
 exact ck [1,0] rfl rfl rfl (⟨congrArg Value.bool (decide_eq_false Om).symm,rfl⟩)
theorem Ll (bt ot tn an:Nat) (gz:cp) (T:List (Nat × Nat × Nat)) (B9:tn≤T.length) (bd od:Nat) (sL:cp) (a:Nat) (iv:Value) (len:Nat) (b o:Nat) (sh:cp) (s:BR) (h:s.OK len) (ha:a<tn):aI Tryz.prog 95 [Vp bd od] [⟨bd,od,[Vb a,Vp b o,Vs bt ot tn an],sL⟩,⟨b,o,[iv,Vd s.off,Vd s.val,Va s.rd],sh⟩] [⟨bt,ot,(rows fD T),gz⟩] (fun v l'=>v=Va ((T.getD a (0,0,0)).1)∧l'=[⟨bd,od,[Vb a,Vp b o,Vs bt ot tn an],sL⟩,⟨b,o,eu iv s,sh⟩]):=by
 refine Zi Tryz.func95 rfl fun w0=>?_
 refine A2 ?_;refine Zg 0 [bE,bB,bG,ic,dr,bR,cw,nZ,cJ,dK,zq,eg] ?_;refine A5 ?_;refine aN (eQ (q':=ot+(a*3)) (m:=a) rfl rfl rfl jl.h Om Om) ?_;refine A1 ?_;refine j8 (iO 0 (a*3+1) cM.h rfl (Jn Om)) ?_;refine A3 ?_;repeat first|refine ZR ?_|refine ZB ?_
 exact ck [0,0] rfl rfl rfl (⟨rfl,rfl⟩)
theorem Et (bt ot tn an:Nat) (gz:cp) (T:List (Nat × Nat × Nat)) (B9:tn≤T.length) (bd od:Nat) (sL:cp) (c0 c1 c2:Value) (iv:Value) (len:Nat) (b o:Nat) (sh:cp) (s:BR) (h:s.OK len) (hr:s.rd<64):aI Tryz.prog 90 [Vp bd od,Vp b o,Vs bt ot tn an,Va 5] [⟨bd,od,[c0,c1,c2],sL⟩,⟨b,o,[iv,Vd s.off,Vd s.val,Va s.rd],sh⟩] [⟨bt,ot,(rows fD T),gz⟩] (fun v l'=>v=.tuple #[]∧l'=[⟨bd,od,[Vb (s.mq 5),Vp b o,Vs bt ot tn an],sL⟩,⟨b,o,eu iv (s.fm 5),sh⟩]):=by
 refine Zi Tryz.func90 rfl fun w0=>?_
 refine A7 ?_;refine cg [1] [] (vS (iv) _ b o sh s Oa 5 Om Om Om) rfl ?_;refine A4 ?_;exact dH [1,0] rfl rfl (⟨rfl,rfl⟩)
theorem Xq (sA:au) (qA:Option Addr) (nA cA jA:Nat) (c6:List Nat) (hA:Rd qA nA 1 (aa .u8 c6) sA jA) (sB:au) (qB:Option Addr) (nB cB jB:Nat) (xsB:List Nat) (hB:Rd qB nB 1 (aa .u8 xsB) sB jB) (hz:nA≤1152921504606846976):aI Tryz.prog 12 [.slice qA nA cA,.slice qB nB cB] [] [sA,sB] (fun v' l'=>v'=.bool (decide (c6=xsB))∧l'=[]):=by
 refine Zi Tryz.func12 rfl fun w0=>?_
 refine G.seq ?_;have y':=hA.oR;have hlB:=hB.oR;refine A6 ?_;refine Zc (fun hn0=>?_) (fun hn0=>?_);refine A3 ?_;repeat first|refine ZR ?_|refine ZB ?_
 exact ck [] rfl rfl rfl (⟨congrArg Value.bool (decide_eq_false (fun e=>hn0 (by rw[←y', ←hlB,e]))).symm,rfl⟩);refine A5 ?_;refine Zo (fun mz ρ l=>∃i:Nat,mz=nA-i∧(i≤nA∧c6.take i=xsB.take i)∧ρ=[(0,.slice qA nA cA),(1,.slice qB nB cB),(12,Vh nA),(13,Vh i)]∧l=[]) ⟨0,rfl,⟨Om,rfl⟩,rfl,rfl⟩ ?_;rintro _ _ _ ⟨i,rfl,hi,rfl,rfl⟩;refine A3 ?_;refine Zc (fun h1=>?_) (fun h1=>?_);refine A5 ?_;refine Zg 0 [bE,bB,bG,ic,dr,bR,cw,nZ,cJ] ?_;refine A1 ?_;refine aN (qX (q':=sA.o+(jA+i)) (m:=i) rfl rfl rfl ak.h Om (hA.ad Om) Om) ?_;refine j8 (iO 0 (jA+i) cM.h rfl (hA.Ds Om)) ?_
 refine aN (qX (q':=sB.o+(jB+i)) (m:=i) rfl rfl rfl ak.h Om (hB.ad Om) Om) ?_;refine j8 (iO 1 (jB+i) cM.h rfl (hB.Ds Om)) ?_;refine A3 ?_;refine Zc (fun FC=>?_) (fun FC=>?_);refine A3 ?_;repeat first|refine ZR ?_|refine ZB ?_
 exact ck [] rfl rfl rfl (⟨congrArg Value.bool (decide_eq_false (fun e=>FC (by rw[e]))).symm,rfl⟩);refine A6 ?_;exact Zb ⟨(i+1),rfl,⟨Om,Wj hi.2 Om Om Om⟩,rfl,rfl⟩;refine A8 ?_;repeat first|refine ZR ?_|refine ZB ?_
 exact ck [] rfl rfl rfl (⟨congrArg Value.bool (decide_eq_true (Wk hi.2 Om Om)).symm,rfl⟩)
theorem cR (sA:au) (qA:Option Addr) (nA cA jA:Nat) (c6:List Nat) (hA:Rd qA nA 1 (aa .u8 c6) sA jA) (hz:nA≤1073741824):aI Tryz.prog 26 [.slice qA nA cA] [] [sA] (KH .u8 (fun ys=>ys=c6)):=by
 refine Zi Tryz.func26 rfl fun w0=>?_
 refine G.seq ?_;have y':=hA.oR;refine A2 ?_;refine Ze (fc (ps:=[]) (pv:=[]) (vs:=[]) 1 rfl ⟨rfl,rfl⟩ aB Od Ov rfl rfl) fun b1=>?_
 refine A1 ?_;refine GL.dj (gu (k:=.u8) (n:=0) (m:=nA) (xs:=[]) (ys:=c6) 0 rfl rfl rfl rfl aB rfl rfl ⟨Oi,.inl rfl⟩ rfl (Src.Wh 1 rfl hA) Oq rfl rfl) rfl ?_;rintro _ _ ⟨q2,b3,o4,Vi,zu,GR,CL,ht9,rfl,rfl⟩;refine A3 ?_;repeat first|refine ZR ?_|refine ZB ?_
 exact ck [0] rfl rfl rfl (KH.mk GR CL ht9 (by first|assumption|rfl|(simp;omega)|simp_all) Oi)
end Go.Proofs.YtekcchgffhphbaaGreatDoor
