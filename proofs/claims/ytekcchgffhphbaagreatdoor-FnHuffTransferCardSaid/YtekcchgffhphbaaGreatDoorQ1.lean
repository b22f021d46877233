/- Walks (printed by a program of my own). -/
import Derived.Test.YtekcchgffhphbaaGreatDoorP3
set_option linter.unusedVariables false
set_option linter.unusedSimpArgs false
set_option maxRecDepth 100000
namespace Go.Proofs.YtekcchgffhphbaaGreatDoor
open Go
theorem Qu {n:Nat} (h:n<64):n&&&63=n:=by rw[show(63:Nat)=2^6-1 from rfl,Nat.and_two_pow_sub_one_eq_mod];exact Nat.mod_eq_of_lt h
theorem Qv (bi so:Nat) (cf:bV) (xs:List Nat) (hx:Bytes xs) (k len cap:Nat) (hl:4≤len) (hk:k+4≤xs.length):aE Tryz.prog 101 [.agg #[],Vs bi (so+k) len cap] [] [⟨bi,so,(aa .u8 xs),cf⟩] (fun v l'=>v=Vc (eS xs k)∧l'=[]):=by
 refine Zi Tryz.func101 rfl fun w0=>?_
 refine G.seq ?_;have AK:=hx.at_ k;have rW:=hx.at_ (k+1);have n9:=hx.at_ (k+2);have uD:=hx.at_ (k+3);refine A1 ?_;refine Ze (jS rfl rfl rfl rfl rfl) fun b1=>?_
 refine A2 ?_;refine Yy (Zx (so+(k+3)) 3 ak.h) ?_;refine A2 ?_;refine Zg 0 [bG,br,MO,c6,dm,bU,rB,cR,cN,dM,ck,eg,vp,dI,eK,eU,iB,jP,vr,nO,ka,kU,kz] ?_;refine A4 ?_;refine aN (Zx (so+(k+1)) 1 ak.h) ?_;refine A2 ?_;refine aN (cw (xs.getD (k+1) 0) 8) ?_;refine A1 ?_;refine aN (Zx (so+(k+2)) 2 ak.h) ?_;refine A2 ?_;refine aN (cw (xs.getD (k+2) 0) 16) ?_;refine aN (dx (m:=(xs.getD k 0)|||((xs.getD (k+1) 0)*2^8%4294967296)) (n:=(xs.getD (k+2) 0)*2^16%4294967296) rfl rfl rfl (bI Om Om) Om) ?_;refine aN (Zx (so+(k+3)) 3 ak.h) ?_;refine A2 ?_;refine aN (cw (xs.getD (k+3) 0) 24) ?_
 refine aN (dx (m:=((xs.getD k 0)|||((xs.getD (k+1) 0)*2^8%4294967296))|||((xs.getD (k+2) 0)*2^16%4294967296)) (n:=(xs.getD (k+3) 0)*2^24%4294967296) rfl rfl rfl (bI (bI Om Om) Om) Om) ?_;refine A3 ?_;repeat first|refine ZR ?_|refine ZB ?_
 exact cy [] rfl rfl rfl (⟨by simp[eS],rfl⟩)
theorem EL (bi so:Nat) (cf:bV) (xs:List Nat) (hx:Bytes xs) (k len cap:Nat) (hl:8≤len) (hk:k+8≤xs.length):aE Tryz.prog 128 [.agg #[],Vs bi (so+k) len cap] [] [⟨bi,so,(aa .u8 xs),cf⟩] (fun v l'=>v=Vd (my xs k)∧l'=[]):=by
 refine Zi Tryz.func128 rfl fun w0=>?_
 refine G.seq ?_;have AK:=hx.at_ k;have rW:=hx.at_ (k+1);have n9:=hx.at_ (k+2);have uD:=hx.at_ (k+3);have hb4:=hx.at_ (k+4);have hb5:=hx.at_ (k+5);have hb6:=hx.at_ (k+6);have hb7:=hx.at_ (k+7);refine A1 ?_;refine Ze (jS rfl rfl rfl rfl rfl) fun b1=>?_
 refine A2 ?_;refine Yy (Zx (so+(k+7)) 7 ak.h) ?_;refine A2 ?_;refine Zg 0 [bG,br,MO,c6,dm,bU,rB,cR,cN,dM,ck,eg,vp,dI,eK,eU,iB,jP,vr,nO,ka,kU,kz,wI,atw,XV,adz,adA,atA,atB,atx,atC,atD,atE,atF,atG,aty,atH,atI,atJ,atK,atL,atz,atN,atO,atP,atQ] ?_;refine A4 ?_;refine aN (Zx (so+(k+1)) 1 ak.h) ?_;refine A2 ?_;refine aN (jy (xs.getD (k+1) 0) 8) ?_;refine A1 ?_;refine aN (Zx (so+(k+2)) 2 ak.h) ?_;refine A2 ?_;refine aN (jy (xs.getD (k+2) 0) 16) ?_
 refine aN (nf (m:=(xs.getD k 0)|||((xs.getD (k+1) 0)*2^8%18446744073709551616)) (n:=(xs.getD (k+2) 0)*2^16%18446744073709551616) rfl rfl rfl (cC Om Om) Om) ?_;refine aN (Zx (so+(k+3)) 3 ak.h) ?_;refine A2 ?_;refine aN (jy (xs.getD (k+3) 0) 24) ?_;refine aN (nf (m:=((xs.getD k 0)|||((xs.getD (k+1) 0)*2^8%18446744073709551616))|||((xs.getD (k+2) 0)*2^16%18446744073709551616)) (n:=(xs.getD (k+3) 0)*2^24%18446744073709551616) rfl rfl rfl (cC (cC Om Om) Om) Om) ?_;refine aN (Zx (so+(k+4)) 4 ak.h) ?_;refine A2 ?_;refine aN (jy (xs.getD (k+4) 0) 32) ?_
 refine aN (nf (m:=(((xs.getD k 0)|||((xs.getD (k+1) 0)*2^8%18446744073709551616))|||((xs.getD (k+2) 0)*2^16%18446744073709551616))|||((xs.getD (k+3) 0)*2^24%18446744073709551616)) (n:=(xs.getD (k+4) 0)*2^32%18446744073709551616) rfl rfl rfl (cC (cC (cC Om Om) Om) Om) Om) ?_;refine aN (Zx (so+(k+5)) 5 ak.h) ?_;refine A2 ?_;refine aN (jy (xs.getD (k+5) 0) 40) ?_
 refine aN (nf (m:=((((xs.getD k 0)|||((xs.getD (k+1) 0)*2^8%18446744073709551616))|||((xs.getD (k+2) 0)*2^16%18446744073709551616))|||((xs.getD (k+3) 0)*2^24%18446744073709551616))|||((xs.getD (k+4) 0)*2^32%18446744073709551616)) (n:=(xs.getD (k+5) 0)*2^40%18446744073709551616) rfl rfl rfl (cC (cC (cC (cC Om Om) Om) Om) Om) Om) ?_;refine aN (Zx (so+(k+6)) 6 ak.h) ?_;refine A2 ?_;refine aN (jy (xs.getD (k+6) 0) 48) ?_
 refine aN (nf (m:=(((((xs.getD k 0)|||((xs.getD (k+1) 0)*2^8%18446744073709551616))|||((xs.getD (k+2) 0)*2^16%18446744073709551616))|||((xs.getD (k+3) 0)*2^24%18446744073709551616))|||((xs.getD (k+4) 0)*2^32%18446744073709551616))|||((xs.getD (k+5) 0)*2^40%18446744073709551616)) (n:=(xs.getD (k+6) 0)*2^48%18446744073709551616) rfl rfl rfl (cC (cC (cC (cC (cC Om Om) Om) Om) Om) Om) Om) ?_;refine aN (Zx (so+(k+7)) 7 ak.h) ?_;refine A2 ?_;refine aN (jy (xs.getD (k+7) 0) 56) ?_
 refine aN (nf (m:=((((((xs.getD k 0)|||((xs.getD (k+1) 0)*2^8%18446744073709551616))|||((xs.getD (k+2) 0)*2^16%18446744073709551616))|||((xs.getD (k+3) 0)*2^24%18446744073709551616))|||((xs.getD (k+4) 0)*2^32%18446744073709551616))|||((xs.getD (k+5) 0)*2^40%18446744073709551616))|||((xs.getD (k+6) 0)*2^48%18446744073709551616)) (n:=(xs.getD (k+7) 0)*2^56%18446744073709551616) rfl rfl rfl (cC (cC (cC (cC (cC (cC Om Om) Om) Om) Om) Om) Om) Om) ?_;refine A3 ?_;repeat first|refine ZR ?_|refine ZB ?_
 exact cy [] rfl rfl rfl (⟨by simp[my],rfl⟩)
theorem ue (bi so:Nat) (cf:bV) (xs:List Nat) (hx:Bytes xs) (k len cap i:Nat) (hl:i+4≤len) (hc:len≤cap) (hk:k+len≤xs.length):aE Tryz.prog 70 [Vs bi (so+k) len cap,Vd i] [] [⟨bi,so,(aa .u8 xs),cf⟩] (fun v l'=>v=Vc (eS xs (k+i))∧l'=[]):=by
 refine Zi Tryz.func70 rfl fun w0=>?_
 refine A2 ?_;refine Zg 16 [Ky,br,bE,c6,e_4,bU] ?_;refine ko (aH.zw (JP rfl rfl Ci.h Cj.h)) ?_;refine aN (dg (q':=so+(k+i)) (lo:=i) rfl rfl rfl ak.h Om Om) ?_;refine eu [] [0] (Qv bi so cf xs Oa (k+i) (len-i) (cap-i) Om Om) rfl ?_;refine A4 ?_;repeat first|refine ZR ?_|refine ZB ?_
 exact cy [] rfl rfl rfl (⟨rfl,rfl⟩)
theorem EM (bi so:Nat) (cf:bV) (xs:List Nat) (hx:Bytes xs) (k len cap i:Nat) (hl:i+8≤len) (hc:len≤cap) (hk:k+len≤xs.length):aE Tryz.prog 100 [Vs bi (so+k) len cap,Vd i] [] [⟨bi,so,(aa .u8 xs),cf⟩] (fun v l'=>v=Vd (my xs (k+i))∧l'=[]):=by
 refine Zi Tryz.func100 rfl fun w0=>?_
 refine A2 ?_;refine Zg 16 [Ky,br,bE,c6,e_4,bU] ?_;refine ko (aH.zw (JP rfl rfl Ci.h Cj.h)) ?_;refine aN (dg (q':=so+(k+i)) (lo:=i) rfl rfl rfl ak.h Om Om) ?_;refine eu [] [0] (EL bi so cf xs Oa (k+i) (len-i) (cap-i) Om Om) rfl ?_;refine A4 ?_;repeat first|refine ZR ?_|refine ZB ?_
 exact cy [] rfl rfl rfl (⟨rfl,rfl⟩)
theorem ym (n:Nat) (h:n<256):aq n≤8:=cS (k:=8) h
theorem X3 (x:Nat) (hx:x<4294967296) (h1:65536≤x) (h2:256≤x/2^16):16+8+aq (x/2^16/2^8%256)=aq x:=by
  rw[Nat.mod_eq_of_lt Om,td x 16 Om,td (x/2^16) 8 Om];omega
theorem X4 (x:Nat) (hx:x<4294967296) (h1:65536≤x) (h2:¬256≤x/2^16):16+aq (x/2^16%256)=aq x:=by
  rw[Nat.mod_eq_of_lt Om,td x 16 Om]
theorem X5 (x:Nat) (hx:x<4294967296) (h1:¬65536≤x) (h2:256≤x):0+8+aq (x/2^8%256)=aq x:=by
  rw[Nat.mod_eq_of_lt Om,td x 8 Om]
theorem X6 (x:Nat) (hx:x<4294967296) (h1:¬65536≤x) (h2:¬256≤x):0+aq (x%256)=aq x:=by
  rw[Nat.mod_eq_of_lt Om,Nat.zero_add]
theorem KC (x:Nat) (hx:x<4294967296):aE Tryz.prog 60 [Vc x] [] [] (fun v l'=>v=Vh (aq x)∧l'=[]):=by
 refine Zi Tryz.func60 rfl fun w0=>?_
 refine A4 ?_;refine Zc (fun h1=>?_) (fun h1=>?_);refine A6 ?_;refine Zc (fun h2=>?_) (fun h2=>?_);refine A3 ?_;refine Yy (Zq 24 (aF 16 8) Od) ?_;refine A1 ?_;refine Yy (az ((x/2^16)/2^8) pD.h a8.h) ?_;refine Yy (Bt (sb:=Ob) (m:=((x/2^16)/2^8)%256) rfl (by kernel_rfl) rfl XW.h (wS _ Om)) ?_;have V6:=ym (((x/2^16)/2^8)%256) Om;refine A4 ?_;repeat first|refine ZR ?_|refine ZB ?_
 exact cy [] rfl rfl rfl (⟨congrArg (fun q:Nat=>Value.int .i64 (q:Int)) (X3 x hx Om Om),rfl⟩);refine A1 ?_;refine Yy (az (x/2^16) pD.h a8.h) ?_;refine Yy (Bt (sb:=Ob) (m:=(x/2^16)%256) rfl (by kernel_rfl) rfl XW.h (wS _ Om)) ?_;have V6:=ym ((x/2^16)%256) Om;refine A1 ?_;refine Yy (aF 16 (aq ((x/2^16)%256))) ?_;refine A2 ?_;repeat first|refine ZR ?_|refine ZB ?_
 exact cy [] rfl rfl rfl (⟨congrArg (fun q:Nat=>Value.int .i64 (q:Int)) (X4 x hx Om Om),rfl⟩);refine A4 ?_;refine Zc (fun h3=>?_) (fun h3=>?_);refine A3 ?_;refine Yy (Zq 8 (aF 0 8) Od) ?_;refine A1 ?_;refine Yy (az (x/2^8) pD.h a8.h) ?_;refine Yy (Bt (sb:=Ob) (m:=(x/2^8)%256) rfl (by kernel_rfl) rfl XW.h (wS _ Om)) ?_;have V6:=ym ((x/2^8)%256) Om;refine A4 ?_;repeat first|refine ZR ?_|refine ZB ?_
 exact cy [] rfl rfl rfl (⟨congrArg (fun q:Nat=>Value.int .i64 (q:Int)) (X5 x hx Om Om),rfl⟩);refine A1 ?_;refine Yy (az x pD.h a8.h) ?_;refine Yy (Bt (sb:=Ob) (m:=x%256) rfl (by kernel_rfl) rfl XW.h (wS _ Om)) ?_;have V6:=ym (x%256) Om;refine A1 ?_;refine Yy (aF 0 (aq (x%256))) ?_;refine A2 ?_;repeat first|refine ZR ?_|refine ZB ?_
 exact cy [] rfl rfl rfl (⟨congrArg (fun q:Nat=>Value.int .i64 (q:Int)) (X6 x hx Om Om),rfl⟩)
theorem dB (x:Nat) (h0:0<x) (hx:x<4294967296):aE Tryz.prog 39 [Vc x] [] [] (fun v l'=>v=Vc (aq x-1)∧l'=[]):=by
 refine Zi Tryz.func39 rfl fun w0=>?_
 refine A1 ?_;refine bN ?_;have hp:=dA h0;have hb:aq x≤32:=cS (k:=32) Om;refine A1 ?_;refine cq [] [] (KC x Om) rfl ?_;refine A4 ?_;repeat first|refine ZR ?_|refine ZB ?_
 exact cy [] rfl rfl rfl (⟨rfl,rfl⟩)
theorem fE (x:Nat) (h0:0<x) (hx:x<4294967296):aE Tryz.prog 87 [Vc x] [] [] (fun v l'=>v=Vc (aq x-1)∧l'=[]):=by
 refine Zi Tryz.func87 rfl fun w0=>?_
 refine A1 ?_;refine bN ?_;have hp:=dA h0;have hb:aq x≤32:=cS (k:=32) Om;refine A1 ?_;refine cq [] [] (KC x Om) rfl ?_;refine A4 ?_;repeat first|refine ZR ?_|refine ZB ?_
 exact cy [] rfl rfl rfl (⟨rfl,rfl⟩)
theorem ai (iv:Value) (len:Nat) (b o:Nat) (sh:bV) (s:BR) (h:s.OK len) (n:Nat) (hn:n<256):aE Tryz.prog 45 [Vp b o,Va n] [⟨b,o,[iv,Vd s.off,Vd s.val,Va s.rd],sh⟩] [] (fun v l'=>v=.tuple #[]∧l'=[⟨b,o,ew (iv) (BR.adv s n),sh⟩]):=by
 refine Zi Tryz.func45 rfl fun w0=>?_
 refine G.seq ?_;have lG:=h.off;have gV:=h.val;have kL:=h.rd;refine LY ?_;exact dG [0] rfl rfl (⟨rfl,rfl⟩)
theorem yn (iv:Value) (len:Nat) (b o:Nat) (sh:bV) (s:BR) (h:s.OK len) (n:Nat) (hn:n≤64):aE Tryz.prog 44 [Vp b o,Va n] [⟨b,o,[iv,Vd s.off,Vd s.val,Va s.rd],sh⟩] [] (fun v l'=>v=Vb (s.ab6 n)∧l'=[⟨b,o,ew (iv) s,sh⟩]):=by
 refine Zi Tryz.func44 rfl fun w0=>?_
 refine A1 ?_;refine bN ?_;have lG:=h.off;have gV:=h.val;have kL:=h.rd;refine A9 ?_;repeat first|refine ZR ?_|refine ZB ?_
 exact cy [0] rfl rfl rfl (⟨rfl,rfl⟩)
theorem dQ (bi so:Nat) (cf:bV) (xs:List Nat) (k len cap:Nat) (hc:len≤cap) (hk:k+len≤xs.length) (hz:xs.length≤1152921504606846976) (b o:Nat) (sh:bV) (s:BR) (h:s.OK len) (hx:Bytes xs) (h4:32≤s.rd→4≤s.off) (hr:s.rd≤64):aE Tryz.prog 43 [Vp b o] [⟨b,o,[Vs bi (so+k) len cap,Vd s.off,Vd s.val,Va s.rd],sh⟩] [⟨bi,so,(aa .u8 xs),cf⟩] (fun v l'=>v=.tuple #[]∧l'=[⟨b,o,ew (Vs bi (so+k) len cap) (BR.aX xs k s),sh⟩]):=by
 refine Zi Tryz.func43 rfl fun w0=>?_
 refine G.seq (G.seq ?_);have lG:=h.off;have gV:=h.val;have kL:=h.rd;refine A5 ?_;refine Zc (fun h1=>?_) (fun h1=>?_);have q6:s.rd<32:=Om;refine A1 ?_;repeat first|refine ZR ?_|refine ZB ?_
 exact oY [0] rfl rfl (⟨rfl,by simp[BR.aX,BR.eX,ew,q6]⟩);have q6:¬s.rd<32:=Om;have h4:=h4 Om;have eV:=dN hx (k+(s.off-4));refine A2 ?_;refine Zg 512 [bG,br,bE,ig,dm,bU,cE,nN,cN,j9,ck] ?_;refine A6 ?_;refine eu [] [1] (ue bi so cf xs Oa k len cap (s.off-4) Om Om Om) rfl ?_;refine A4 ?_;refine Zg 65536 [bG,br,bE,ig,dm,bU,cE,cR,cN,Ch,ck,eg,dP,dI,eK,eU,Qc] ?_;refine A27 ?_;exact dG [0] rfl rfl (⟨rfl,by simp[BR.aX,BR.eX,ew,q6,Qu (show s.rd-32<64 by omega)]⟩)
theorem mS (bi so:Nat) (cf:bV) (xs:List Nat) (k len cap:Nat) (hc:len≤cap) (hk:k+len≤xs.length) (hz:xs.length≤1152921504606846976) (b o:Nat) (sh:bV) (s:BR) (h:s.OK len) (hx:Bytes xs) (h8:8≤s.off):aE Tryz.prog 68 [Vp b o] [⟨b,o,[Vs bi (so+k) len cap,Vd s.off,Vd s.val,Va s.rd],sh⟩] [⟨bi,so,(aa .u8 xs),cf⟩] (fun v l'=>v=.tuple #[]∧l'=[⟨b,o,ew (Vs bi (so+k) len cap) (⟨s.off-8,my xs (k+(s.off-8)),0⟩:BR),sh⟩]):=by
 refine Zi Tryz.func68 rfl fun w0=>?_
 refine A1 ?_;have lG:=h.off;have gV:=h.val;have kL:=h.rd;refine Zg 9216 [bG,br,bE,c6,ij,bU,cE,cR,zn,dM,oF,eg,dP,Hk] ?_;refine A6 ?_;refine eu [] [1] (EM bi so cf xs Oa k len cap (s.off-8) Om Om Om) rfl ?_;refine A7 ?_;refine Ys (gg 0 3 fL.h) ?_;refine A7 ?_;exact dG [0] rfl rfl (⟨rfl,rfl⟩)
theorem kI (iv:Value) (len:Nat) (b o:Nat) (sh:bV) (s:BR) (h:s.OK len) (hr:s.rd≤64) (hz:len≤1152921504606846976):aE Tryz.prog 47 [Vp b o] [⟨b,o,[iv,Vd s.off,Vd s.val,Va s.rd],sh⟩] [] (fun v l'=>v=Vd s.left∧l'=[⟨b,o,ew (iv) s,sh⟩]):=by
 refine Zi Tryz.func47 rfl fun w0=>?_
 refine G.seq ?_;have lG:=h.off;have gV:=h.val;have kL:=h.rd;refine A2 ?_;refine Zg 0 [bG,br,bE,ig,dm,bU,cE,cR,zn,dM,ck,eg,dP] ?_;refine EK ?_;repeat first|refine ZR ?_|refine ZB ?_
 exact cy [0] rfl rfl rfl (⟨rfl,rfl⟩)
theorem eQ (bi so:Nat) (cf:bV) (xs:List Nat) (k len cap:Nat) (hc:len≤cap) (hk:k+len≤xs.length) (hz:xs.length≤1152921504606846976) (b o:Nat) (sh:bV) (s:BR) (h:s.OK len) (hx:Bytes xs) (hr:s.rd≤64) (h8:32≤s.rd→s.off<5→8*s.off≤s.rd):aE Tryz.prog 48 [Vp b o] [⟨b,o,[Vs bi (so+k) len cap,Vd s.off,Vd s.val,Va s.rd],sh⟩] [⟨bi,so,(aa .u8 xs),cf⟩] (fun v l'=>v=.tuple #[]∧l'=[⟨b,o,ew (Vs bi (so+k) len cap) (BR.fill 5 xs k s),sh⟩]):=by
 refine Zi Tryz.func48 rfl fun w0=>?_
 refine G.seq (G.seq ?_);have lG:=h.off;have gV:=h.val;have kL:=h.rd;refine A5 ?_;refine Zc (fun h1=>?_) (fun h1=>?_);have q6:s.rd<32:=Om;refine A1 ?_;repeat first|refine ZR ?_|refine ZB ?_
 exact oY [0] rfl rfl (⟨rfl,by simp[BR.fill,ew,q6]⟩);have q6:¬s.rd<32:=Om;refine A6 ?_;refine Zc (fun h2=>?_) (fun h2=>?_);have h4:5≤s.off:=Om;have eV:=dN hx (k+(s.off-4));refine A1 ?_;refine Zg 512 [bG,br,bE,ig,dm,bU,cE,nN,cN,j9,ck] ?_;refine A6 ?_;refine eu [] [1] (ue bi so cf xs Oa k len cap (s.off-4) Om Om Om) rfl ?_;refine A4 ?_;refine Zg 65536 [bG,br,bE,ig,dm,bU,cE,cR,cN,Ch,ck,eg,dP,dI,eK,eU,Qc] ?_;refine A28 ?_;repeat first|refine ZR ?_|refine ZB ?_
 exact oY [0] rfl rfl (⟨rfl,by simp[BR.fill,BR.eX,ew,q6,h4,Qu (show s.rd-32<64 by omega)]⟩);have h4:¬5≤s.off:=Om;have h8:=h8 Om Om;refine A2 ?_;refine Zo (fun mz ρ l=>∃j:Nat,mz=s.off-j∧(j≤s.off)∧ρ=[(0,Vp b o)]∧l=[⟨b,o,[Vs bi (so+k) len cap,Vd ((BR.loads xs k j s).off),Vd ((BR.loads xs k j s).val),Va ((BR.loads xs k j s).rd)],sh⟩]) ⟨0,rfl,Om,rfl,rfl⟩ ?_;rintro _ _ _ ⟨j,rfl,hj,rfl,rfl⟩;have ho1:=BR.jX (xs:=xs) (k:=k) (s:=s) j;have F9:=BR.mA (xs:=xs) (k:=k) (s:=s) j;have wB:=(BR.OK.loads (xs:=xs) (k:=k) h j).val;have rW:=hx.at_ (k+((BR.loads xs k j s).off-1));refine A5 ?_
 refine Zc (fun h3=>?_) (fun h3=>?_);refine A3 ?_;refine Zg 67108864 [bG,br,bE,ig,dm,bU,cE,nN,cN,dM,ck,kT,dP,dI,vq,eU,iB,jP,sq,zI,ka,kU,kz,wI,wJ,XV,atv] ?_;refine A35 ?_;exact Zb ⟨j+1,rfl,Om,rfl,(by simp[setS,BR.loads,BR.bu,Qu (show(BR.loads xs k j s).rd-8<64 by omega)])⟩;refine A4 ?_;exact dG [0] rfl rfl (⟨rfl,by simp[BR.fill,ew,q6,h4,show j=s.off by omega]⟩)
theorem gA (iv:Value) (len:Nat) (b o:Nat) (sh:bV) (s:BR) (h:s.OK len) (h0:s.off=0) (uC:s.rd=64) (hz:len≤1152921504606846976):aE Tryz.prog 49 [Vp b o] [⟨b,o,[iv,Vd s.off,Vd s.val,Va s.rd],sh⟩] [] (fun v l'=>v=.nilIface∧l'=[⟨b,o,ew Vn s,sh⟩]):=by
 refine Zi Tryz.func49 rfl fun w0=>?_
 refine G.seq ?_;have lG:=h.off;have gV:=h.val;have kL:=h.rd;have hlf:s.left=0:=by simp[BR.left,h0,uC]
 refine A5 ?_;refine cq [0] [] (kI Vn _ b o sh s Oa Om Om) rfl ?_;refine A2 ?_;refine Zc (fun h1=>?_) (fun h1=>?_)
 exfalso;omega
 refine A6 ?_;refine Zc (fun h2=>?_) (fun h2=>?_)
 exfalso;omega
 refine A3 ?_;repeat first|refine ZR ?_|refine ZB ?_
 exact cy [0] rfl rfl rfl (⟨rfl,rfl⟩)
theorem gP (bi so:Nat) (cf:bV) (xs:List Nat) (k len cap:Nat) (hc:len≤cap) (hk:k+len≤xs.length) (hz:xs.length≤1152921504606846976) (hx:Bytes xs) (h1:1≤len) (hv:0<xs.getD (k+(len-1)) 0) (b o:Nat) (sh:bV) (c0 c1 c2 c3:Value):aE Tryz.prog 41 [Vp b o,Vs bi (so+k) len cap] [⟨b,o,[c0,c1,c2,c3],sh⟩] [⟨bi,so,(aa .u8 xs),cf⟩] (fun v l'=>v=.nilIface∧l'=[⟨b,o,ew (Vs bi (so+k) len cap) (BR.init 5 xs k len),sh⟩]):=by
 refine Zi Tryz.func41 rfl fun w0=>?_
 refine G.seq ?_;have hs0:BR.OK len ⟨len,0,64⟩:=⟨Nat.le_refl _,Oi,Oi⟩;have hlb:=hx.at_ (k+(len-1));have V6:aq (xs.getD (k+(len-1)) 0)≤8:=ym _ hlb;have Bm:=BR.OK.fill (t:=5) (xs:=xs) (k:=k) hs0;have Ge:=BR.OK.fill (t:=5) (xs:=xs) (k:=k) Bm;refine A5 ?_
 focus
  refine Zc (fun h1=>?_) (fun h1=>?_)
  exfalso;omega
  refine X0 ?_;refine Zc (fun h2=>?_) (fun h2=>?_)
  exfalso;omega
  refine A2 ?_;refine Ys (gg 0 3 fL.h) ?_;refine A2 ?_;refine Ys (gg 0 2 AV.h) ?_;refine A4 ?_;refine Zc (fun hq=>?_) (fun hq=>?_);have h8:8≤len:=Om;have hs8:BR.OK len (⟨(⟨len,0,64⟩:BR).off-8,my xs (k+((⟨len,0,64⟩:BR).off-8)),0⟩:BR):=⟨Oi,nr hx _,Oi⟩;refine A1 ?_;refine cq [0] [0] (mS bi so cf xs k len cap Om Om Om b o sh (⟨len,0,64⟩:BR) Oa Oa Om) rfl ?_;refine A2 ?_;refine cq [] [] (dB (xs.getD (k+(len-1)) 0) Om Om) rfl ?_;refine A2 ?_
  refine cq [0] [] (ai (Vs bi (so+k) len cap) _ b o sh (⟨(⟨len,0,64⟩:BR).off-8,my xs (k+((⟨len,0,64⟩:BR).off-8)),0⟩:BR) Oa (8-(aq (xs.getD (k+(len-1)) 0)-1)) Om) rfl ?_;rotate_left;have h8:¬8≤len:=Om;have e1:(⟨len,0,64⟩:BR).rd=64:=rfl;have e2:(⟨len,0,64⟩:BR).off=len:=rfl;have hf1:=BR.JS (t:=5) (xs:=xs) (k:=k) (s:=⟨len,0,64⟩) Oi;have hf2:=BR.rP (t:=5) (xs:=xs) (k:=k) (len:=len) Om Om;refine A1 ?_;refine cq [0] [0] (eQ bi so cf xs k len cap Om Om Om b o sh (⟨len,0,64⟩:BR) Oa Oa Om Om) rfl ?_;refine A1 ?_
  refine cq [0] [0] (eQ bi so cf xs k len cap Om Om Om b o sh (BR.fill 5 xs k (⟨len,0,64⟩:BR)) Oa Oa Om Om) rfl ?_;refine A2 ?_;refine cq [] [] (dB (xs.getD (k+(len-1)) 0) Om Om) rfl ?_;refine A2 ?_;refine cq [0] [] (ai (Vs bi (so+k) len cap) _ b o sh (BR.fill 5 xs k (BR.fill 5 xs k (⟨len,0,64⟩:BR))) Oa (8-(aq (xs.getD (k+(len-1)) 0)-1)) Om) rfl ?_;rotate_left;all_goals
   refine A3 ?_;repeat first|refine ZR ?_|refine ZB ?_
   exact cy [0] rfl rfl rfl (⟨rfl,by simp[BR.init,BR.start,ew,h8]⟩)
theorem ag (iv:Value) (len:Nat) (b o:Nat) (sh:bV) (s:BR) (h:s.OK len) (n:Nat) (hn:n<256):aE Tryz.prog 66 [Vp b o,Va n] [⟨b,o,[iv,Vd s.off,Vd s.val,Va s.rd],sh⟩] [] (fun v l'=>v=.tuple #[]∧l'=[⟨b,o,ew (iv) (BR.adv s n),sh⟩]):=by
 refine Zi Tryz.func66 rfl fun w0=>?_
 refine G.seq ?_;have lG:=h.off;have gV:=h.val;have kL:=h.rd;refine LY ?_;exact dG [0] rfl rfl (⟨rfl,rfl⟩)
theorem uf (iv:Value) (len:Nat) (b o:Nat) (sh:bV) (s:BR) (h:s.OK len):aE Tryz.prog 72 [Vp b o] [⟨b,o,[iv,Vd s.off,Vd s.val,Va s.rd],sh⟩] [] (fun v l'=>v=Va (s.val/2^56%256)∧l'=[⟨b,o,ew (iv) s,sh⟩]):=by
 refine Zi Tryz.func72 rfl fun w0=>?_
 refine A1 ?_;refine bN ?_;have lG:=h.off;have gV:=h.val;have kL:=h.rd;refine A4 ?_;refine Yy (az (s.val/2^56) aap.h a8.h) ?_;refine A3 ?_;repeat first|refine ZR ?_|refine ZB ?_
 exact cy [0] rfl rfl rfl (⟨rfl,rfl⟩)
theorem aY (bi so:Nat) (cf:bV) (xs:List Nat) (k len cap:Nat) (hc:len≤cap) (hk:k+len≤xs.length) (hz:xs.length≤1152921504606846976) (b o:Nat) (sh:bV) (s:BR) (h:s.OK len) (hx:Bytes xs) (h4:32≤s.rd→4≤s.off) (hr:s.rd≤64):aE Tryz.prog 63 [Vp b o] [⟨b,o,[Vs bi (so+k) len cap,Vd s.off,Vd s.val,Va s.rd],sh⟩] [⟨bi,so,(aa .u8 xs),cf⟩] (fun v l'=>v=.tuple #[]∧l'=[⟨b,o,ew (Vs bi (so+k) len cap) (BR.aX xs k s),sh⟩]):=by
 refine Zi Tryz.func63 rfl fun w0=>?_
 refine G.seq (G.seq ?_);have lG:=h.off;have gV:=h.val;have kL:=h.rd;refine A5 ?_;refine Zc (fun h1=>?_) (fun h1=>?_);have q6:s.rd<32:=Om;refine A1 ?_;repeat first|refine ZR ?_|refine ZB ?_
 exact oY [0] rfl rfl (⟨rfl,by simp[BR.aX,BR.eX,ew,q6]⟩);have q6:¬s.rd<32:=Om;have h4:=h4 Om;have eV:=dN hx (k+(s.off-4));refine A2 ?_;refine Zg 512 [bG,br,bE,ig,dm,bU,cE,nN,cN,j9,ck] ?_;refine A6 ?_;refine eu [] [1] (ue bi so cf xs Oa k len cap (s.off-4) Om Om Om) rfl ?_;refine A4 ?_;refine Zg 32768 [bG,br,bE,ig,dm,bU,cE,cR,cN,Ch,ck,eg,dP,dI,eK,EA] ?_;refine A26 ?_;exact dG [0] rfl rfl (⟨rfl,by simp[BR.aX,BR.eX,ew,q6]⟩)
theorem oG (bi so:Nat) (cf:bV) (xs:List Nat) (k len cap:Nat) (hc:len≤cap) (hk:k+len≤xs.length) (hz:xs.length≤1152921504606846976) (b o:Nat) (sh:bV) (s:BR) (h:s.OK len) (hx:Bytes xs) (h8:8≤s.off):aE Tryz.prog 98 [Vp b o] [⟨b,o,[Vs bi (so+k) len cap,Vd s.off,Vd s.val,Va s.rd],sh⟩] [⟨bi,so,(aa .u8 xs),cf⟩] (fun v l'=>v=.tuple #[]∧l'=[⟨b,o,ew (Vs bi (so+k) len cap) (⟨s.off-8,my xs (k+(s.off-8)),0⟩:BR),sh⟩]):=by
 refine Zi Tryz.func98 rfl fun w0=>?_
 refine A1 ?_;have lG:=h.off;have gV:=h.val;have kL:=h.rd;refine Zg 9216 [bG,br,bE,c6,ij,bU,cE,cR,zn,dM,oF,eg,dP,Hk] ?_;refine A6 ?_;refine eu [] [1] (EM bi so cf xs Oa k len cap (s.off-8) Om Om Om) rfl ?_;refine A7 ?_;refine Ys (gg 0 3 fL.h) ?_;refine A7 ?_;exact dG [0] rfl rfl (⟨rfl,rfl⟩)
theorem lS (iv:Value) (len:Nat) (b o:Nat) (sh:bV) (s:BR) (h:s.OK len) (hr:s.rd≤64) (hz:len≤1152921504606846976):aE Tryz.prog 64 [Vp b o] [⟨b,o,[iv,Vd s.off,Vd s.val,Va s.rd],sh⟩] [] (fun v l'=>v=Vd s.left∧l'=[⟨b,o,ew (iv) s,sh⟩]):=by
 refine Zi Tryz.func64 rfl fun w0=>?_
 refine G.seq ?_;have lG:=h.off;have gV:=h.val;have kL:=h.rd;refine A2 ?_;refine Zg 0 [bG,br,bE,ig,dm,bU,cE,cR,zn,dM,ck,eg,dP] ?_;refine EK ?_;repeat first|refine ZR ?_|refine ZB ?_
 exact cy [0] rfl rfl rfl (⟨rfl,rfl⟩)
theorem ug (bi so:Nat) (cf:bV) (xs:List Nat) (k len cap:Nat) (hc:len≤cap) (hk:k+len≤xs.length) (hz:xs.length≤1152921504606846976) (b o:Nat) (sh:bV) (s:BR) (h:s.OK len) (hx:Bytes xs) (hr:s.rd≤64) (h8:32≤s.rd→s.off<4→8*s.off≤s.rd):aE Tryz.prog 99 [Vp b o] [⟨b,o,[Vs bi (so+k) len cap,Vd s.off,Vd s.val,Va s.rd],sh⟩] [⟨bi,so,(aa .u8 xs),cf⟩] (fun v l'=>v=.tuple #[]∧l'=[⟨b,o,ew (Vs bi (so+k) len cap) (BR.fill 4 xs k s),sh⟩]):=by
 refine Zi Tryz.func99 rfl fun w0=>?_
 refine G.seq (G.seq ?_);have lG:=h.off;have gV:=h.val;have kL:=h.rd;refine A5 ?_;refine Zc (fun h1=>?_) (fun h1=>?_);have q6:s.rd<32:=Om;refine A1 ?_;repeat first|refine ZR ?_|refine ZB ?_
 exact oY [0] rfl rfl (⟨rfl,by simp[BR.fill,ew,q6]⟩);have q6:¬s.rd<32:=Om;refine A6 ?_;refine Zc (fun h2=>?_) (fun h2=>?_);have h4:4≤s.off:=Om;have eV:=dN hx (k+(s.off-4));refine A1 ?_;refine Zg 512 [bG,br,bE,ig,dm,bU,cE,nN,cN,j9,ck] ?_;refine A6 ?_;refine eu [] [1] (ue bi so cf xs Oa k len cap (s.off-4) Om Om Om) rfl ?_;refine A4 ?_;refine Zg 32768 [bG,br,bE,ig,dm,bU,cE,cR,cN,Ch,ck,eg,dP,dI,eK,EA] ?_;refine A27 ?_;repeat first|refine ZR ?_|refine ZB ?_
 exact oY [0] rfl rfl (⟨rfl,by simp[BR.fill,BR.eX,ew,q6,h4]⟩);have h4:¬4≤s.off:=Om;have h8:=h8 Om Om;refine A2 ?_;refine Zo (fun mz ρ l=>∃j:Nat,mz=s.off-j∧(j≤s.off)∧ρ=[(0,Vp b o)]∧l=[⟨b,o,[Vs bi (so+k) len cap,Vd ((BR.loads xs k j s).off),Vd ((BR.loads xs k j s).val),Va ((BR.loads xs k j s).rd)],sh⟩]) ⟨0,rfl,Om,rfl,rfl⟩ ?_;rintro _ _ _ ⟨j,rfl,hj,rfl,rfl⟩;have ho1:=BR.jX (xs:=xs) (k:=k) (s:=s) j;have F9:=BR.mA (xs:=xs) (k:=k) (s:=s) j;have wB:=(BR.OK.loads (xs:=xs) (k:=k) h j).val;have rW:=hx.at_ (k+((BR.loads xs k j s).off-1));refine A5 ?_;refine Zc (fun h3=>?_) (fun h3=>?_);refine A3 ?_
 refine Zg 33554432 [bG,br,bE,ig,dm,bU,cE,nN,cN,dM,ck,kT,dP,dI,vq,eU,iB,jP,sq,zI,ka,kU,kz,wI,wJ,Ce] ?_;refine X1 ?_;exact Zb ⟨j+1,rfl,Om,rfl,rfl⟩;refine A4 ?_;exact dG [0] rfl rfl (⟨rfl,by simp[BR.fill,ew,q6,h4,show j=s.off by omega]⟩)
theorem dF (iv:Value) (len:Nat) (b o:Nat) (sh:bV) (s:BR) (h:s.OK len) (h0:s.off=0) (uC:s.rd=64) (hz:len≤1152921504606846976):aE Tryz.prog 67 [Vp b o] [⟨b,o,[iv,Vd s.off,Vd s.val,Va s.rd],sh⟩] [] (fun v l'=>v=.nilIface∧l'=[⟨b,o,ew Vn s,sh⟩]):=by
 refine Zi Tryz.func67 rfl fun w0=>?_
 refine G.seq ?_;have lG:=h.off;have gV:=h.val;have kL:=h.rd;have hlf:s.left=0:=by simp[BR.left,h0,uC]
 refine A5 ?_;refine cq [0] [] (lS Vn _ b o sh s Oa Om Om) rfl ?_;refine A2 ?_;refine Zc (fun h1=>?_) (fun h1=>?_)
 exfalso;omega
 refine A6 ?_;refine Zc (fun h2=>?_) (fun h2=>?_)
 exfalso;omega
 refine A3 ?_;repeat first|refine ZR ?_|refine ZB ?_
 exact cy [0] rfl rfl rfl (⟨rfl,rfl⟩)
theorem dX (bi so:Nat) (cf:bV) (xs:List Nat) (k len cap:Nat) (hc:len≤cap) (hk:k+len≤xs.length) (hz:xs.length≤1152921504606846976) (hx:Bytes xs) (h1:1≤len) (hv:0<xs.getD (k+(len-1)) 0) (b o:Nat) (sh:bV) (c0 c1 c2 c3:Value):aE Tryz.prog 62 [Vp b o,Vs bi (so+k) len cap] [⟨b,o,[c0,c1,c2,c3],sh⟩] [⟨bi,so,(aa .u8 xs),cf⟩] (fun v l'=>v=.nilIface∧l'=[⟨b,o,ew (Vs bi (so+k) len cap) (BR.init 4 xs k len),sh⟩]):=by
 refine Zi Tryz.func62 rfl fun w0=>?_
 refine G.seq ?_;have hs0:BR.OK len ⟨len,0,64⟩:=⟨Nat.le_refl _,Oi,Oi⟩;have hlb:=hx.at_ (k+(len-1));have V6:aq (xs.getD (k+(len-1)) 0)≤8:=ym _ hlb;have Bm:=BR.OK.fill (t:=4) (xs:=xs) (k:=k) hs0;have Ge:=BR.OK.fill (t:=4) (xs:=xs) (k:=k) Bm;refine A5 ?_
 focus
  refine Zc (fun h1=>?_) (fun h1=>?_)
  exfalso;omega
  refine X0 ?_;refine Zc (fun h2=>?_) (fun h2=>?_)
  exfalso;omega
  refine A2 ?_;refine Ys (gg 0 3 fL.h) ?_;refine A2 ?_;refine Ys (gg 0 2 AV.h) ?_;refine A4 ?_;refine Zc (fun hq=>?_) (fun hq=>?_);have h8:8≤len:=Om;have hs8:BR.OK len (⟨(⟨len,0,64⟩:BR).off-8,my xs (k+((⟨len,0,64⟩:BR).off-8)),0⟩:BR):=⟨Oi,nr hx _,Oi⟩;refine A1 ?_;refine cq [0] [0] (oG bi so cf xs k len cap Om Om Om b o sh (⟨len,0,64⟩:BR) Oa Oa Om) rfl ?_;refine A2 ?_;refine cq [] [] (dB (xs.getD (k+(len-1)) 0) Om Om) rfl ?_;refine A2 ?_
  refine cq [0] [] (ag (Vs bi (so+k) len cap) _ b o sh (⟨(⟨len,0,64⟩:BR).off-8,my xs (k+((⟨len,0,64⟩:BR).off-8)),0⟩:BR) Oa (8-(aq (xs.getD (k+(len-1)) 0)-1)) Om) rfl ?_;rotate_left;have h8:¬8≤len:=Om;have e1:(⟨len,0,64⟩:BR).rd=64:=rfl;have e2:(⟨len,0,64⟩:BR).off=len:=rfl;have hf1:=BR.JS (t:=4) (xs:=xs) (k:=k) (s:=⟨len,0,64⟩) Oi;have hf2:=BR.rP (t:=4) (xs:=xs) (k:=k) (len:=len) Om Om;refine A1 ?_;refine cq [0] [0] (ug bi so cf xs k len cap Om Om Om b o sh (⟨len,0,64⟩:BR) Oa Oa Om Om) rfl ?_;refine A1 ?_
  refine cq [0] [0] (ug bi so cf xs k len cap Om Om Om b o sh (BR.fill 4 xs k (⟨len,0,64⟩:BR)) Oa Oa Om Om) rfl ?_;refine A2 ?_;refine cq [] [] (dB (xs.getD (k+(len-1)) 0) Om Om) rfl ?_;refine A2 ?_;refine cq [0] [] (ag (Vs bi (so+k) len cap) _ b o sh (BR.fill 4 xs k (BR.fill 4 xs k (⟨len,0,64⟩:BR))) Oa (8-(aq (xs.getD (k+(len-1)) 0)-1)) Om) rfl ?_;rotate_left;all_goals
   refine A3 ?_;repeat first|refine ZR ?_|refine ZB ?_
   exact cy [0] rfl rfl rfl (⟨rfl,by simp[BR.init,BR.start,ew,h8]⟩)
theorem kV (bi so:Nat) (cf:bV) (xs:List Nat) (k len cap:Nat) (hc:len≤cap) (hk:k+len≤xs.length) (hz:xs.length≤1152921504606846976) (b o:Nat) (sh:bV) (s:BR) (h:s.OK len) (hx:Bytes xs) (h4:32≤s.rd→4≤s.off) (hr:s.rd≤64):aE Tryz.prog 91 [Vp b o] [⟨b,o,[Vs bi (so+k) len cap,Vd s.off,Vd s.val,Va s.rd],sh⟩] [⟨bi,so,(aa .u8 xs),cf⟩] (fun v l'=>v=.tuple #[]∧l'=[⟨b,o,ew (Vs bi (so+k) len cap) (BR.jq xs k s),sh⟩]):=by
 refine Zi Tryz.func91 rfl fun w0=>?_
 refine G.seq (G.seq ?_);have lG:=h.off;have gV:=h.val;have kL:=h.rd;refine A5 ?_;refine Zc (fun h1=>?_) (fun h1=>?_);have q6:s.rd<32:=Om;refine A1 ?_;repeat first|refine ZR ?_|refine ZB ?_
 exact oY [0] rfl rfl (⟨rfl,by simp[BR.jq,BR.kv,ew,q6]⟩);have q6:¬s.rd<32:=Om;have h4:=h4 Om;have eV:=dN hx (k+(s.off-4));have AK:=hx.at_ (k+(s.off-4));have rW:=hx.at_ (k+(s.off-4)+1);have n9:=hx.at_ (k+(s.off-4)+2);have uD:=hx.at_ (k+(s.off-4)+3);refine A2 ?_;refine Zg 0 [bG,br,bE,ig,dm,bU,cE,nN,cN,dM,ck] ?_;refine A6 ?_;refine aN (dg (q':=so+(k+(s.off-4))) (lo:=s.off-4) rfl rfl rfl ak.h Om Om) ?_;refine A5 ?_;refine Zg 0 [bG,br,MO,c6,dm,bU,rB,cR,cN,dM,ck,eg,vp,dI,eK,eU,iB,jP,vr,nO,ka,kU,kz] ?_;refine A4 ?_;refine aN (Zx (so+(k+(s.off-4)+1)) 1 ak.h) ?_;refine A2 ?_
 refine aN (cw (xs.getD (k+(s.off-4)+1) 0) 8) ?_;refine A1 ?_;refine aN (Zx (so+(k+(s.off-4)+2)) 2 ak.h) ?_;refine A2 ?_;refine aN (cw (xs.getD (k+(s.off-4)+2) 0) 16) ?_;refine aN (dx (m:=(xs.getD (k+(s.off-4)) 0)|||((xs.getD (k+(s.off-4)+1) 0)*2^8%4294967296)) (n:=(xs.getD (k+(s.off-4)+2) 0)*2^16%4294967296) rfl rfl rfl (bI Om Om) Om) ?_;refine aN (Zx (so+(k+(s.off-4)+3)) 3 ak.h) ?_;refine A2 ?_;refine aN (cw (xs.getD (k+(s.off-4)+3) 0) 24) ?_
 refine aN (Zq (eS xs (k+(s.off-4))) (dx (m:=((xs.getD (k+(s.off-4)) 0)|||((xs.getD (k+(s.off-4)+1) 0)*2^8%4294967296))|||((xs.getD (k+(s.off-4)+2) 0)*2^16%4294967296)) (n:=(xs.getD (k+(s.off-4)+3) 0)*2^24%4294967296) rfl rfl rfl (bI (bI Om Om) Om) Om) (by simp[eS])) ?_;refine A23 ?_;exact dG [0] rfl rfl (⟨rfl,by simp[BR.jq,BR.kv,ew,q6]⟩)
theorem uh (bi so:Nat) (cf:bV) (xs:List Nat) (k len cap:Nat) (hc:len≤cap) (hk:k+len≤xs.length) (hz:xs.length≤1152921504606846976) (b o:Nat) (sh:bV) (s:BR) (h:s.OK len) (hx:Bytes xs) (h8:8≤s.off):aE Tryz.prog 124 [Vp b o] [⟨b,o,[Vs bi (so+k) len cap,Vd s.off,Vd s.val,Va s.rd],sh⟩] [⟨bi,so,(aa .u8 xs),cf⟩] (fun v l'=>v=.tuple #[]∧l'=[⟨b,o,ew (Vs bi (so+k) len cap) (⟨s.off-8,my xs (k+(s.off-8)),0⟩:BR),sh⟩]):=by
 refine Zi Tryz.func124 rfl fun w0=>?_
 refine A1 ?_;have lG:=h.off;have gV:=h.val;have kL:=h.rd;refine Zg 36864 [bG,r_1,bE,c6,dm,Kz,cE,cR,cN,Ch,ck,eg,LV,dI,eK,EA] ?_;refine A1 ?_;refine ko (aH.zw (JP rfl rfl Ci.h Cj.h)) ?_;refine A5 ?_;refine aN (dg (q':=so+(k+(s.off-8))) (lo:=s.off-8) rfl rfl rfl ak.h Om Om) ?_;refine eu [] [1] (EL bi so cf xs Oa (k+(s.off-8)) (len-(s.off-8)) (cap-(s.off-8)) Om Om) rfl ?_;refine A7 ?_;refine Ys (gg 0 3 fL.h) ?_;refine A7 ?_;exact dG [0] rfl rfl (⟨rfl,rfl⟩)
theorem ui (bi so:Nat) (cf:bV) (xs:List Nat) (k len cap:Nat) (hc:len≤cap) (hk:k+len≤xs.length) (hz:xs.length≤1152921504606846976) (b o:Nat) (sh:bV) (s:BR) (h:s.OK len) (hx:Bytes xs) (hr:s.rd≤64) (h8:32≤s.rd→s.off<5→8*s.off≤s.rd):aE Tryz.prog 96 [Vp b o] [⟨b,o,[Vs bi (so+k) len cap,Vd s.off,Vd s.val,Va s.rd],sh⟩] [⟨bi,so,(aa .u8 xs),cf⟩] (fun v l'=>v=.tuple #[]∧l'=[⟨b,o,ew (Vs bi (so+k) len cap) (BR.eF xs k s),sh⟩]):=by
 refine Zi Tryz.func96 rfl fun w0=>?_
 refine G.seq (G.seq ?_);have lG:=h.off;have gV:=h.val;have kL:=h.rd;refine A5 ?_;refine Zc (fun h1=>?_) (fun h1=>?_);have q6:s.rd<32:=Om;refine A1 ?_;repeat first|refine ZR ?_|refine ZB ?_
 exact oY [0] rfl rfl (⟨rfl,by simp[BR.eF,ew,q6]⟩);have q6:¬s.rd<32:=Om;refine A6 ?_;refine Zc (fun h2=>?_) (fun h2=>?_);have h4:4<s.off:=Om;have eV:=dN hx (k+(s.off-4));have AK:=hx.at_ (k+(s.off-4));have rW:=hx.at_ (k+(s.off-4)+1);have n9:=hx.at_ (k+(s.off-4)+2);have uD:=hx.at_ (k+(s.off-4)+3);refine A1 ?_;refine Zg 0 [bG,br,bE,ig,dm,bU,cE,nN,cN,dM,ck] ?_;refine A6 ?_;refine aN (dg (q':=so+(k+(s.off-4))) (lo:=s.off-4) rfl rfl rfl ak.h Om Om) ?_;refine A5 ?_;refine Zg 0 [bG,br,MO,c6,dm,bU,rB,cR,cN,dM,ck,eg,vp,dI,eK,eU,iB,jP,vr,nO,ka,kU,kz] ?_;refine A4 ?_
 refine aN (Zx (so+(k+(s.off-4)+1)) 1 ak.h) ?_;refine A2 ?_;refine aN (cw (xs.getD (k+(s.off-4)+1) 0) 8) ?_;refine A1 ?_;refine aN (Zx (so+(k+(s.off-4)+2)) 2 ak.h) ?_;refine A2 ?_;refine aN (cw (xs.getD (k+(s.off-4)+2) 0) 16) ?_;refine aN (dx (m:=(xs.getD (k+(s.off-4)) 0)|||((xs.getD (k+(s.off-4)+1) 0)*2^8%4294967296)) (n:=(xs.getD (k+(s.off-4)+2) 0)*2^16%4294967296) rfl rfl rfl (bI Om Om) Om) ?_;refine aN (Zx (so+(k+(s.off-4)+3)) 3 ak.h) ?_;refine A2 ?_;refine aN (cw (xs.getD (k+(s.off-4)+3) 0) 24) ?_
 refine aN (Zq (eS xs (k+(s.off-4))) (dx (m:=((xs.getD (k+(s.off-4)) 0)|||((xs.getD (k+(s.off-4)+1) 0)*2^8%4294967296))|||((xs.getD (k+(s.off-4)+2) 0)*2^16%4294967296)) (n:=(xs.getD (k+(s.off-4)+3) 0)*2^24%4294967296) rfl rfl rfl (bI (bI Om Om) Om) Om) (by simp[eS])) ?_;refine A24 ?_;repeat first|refine ZR ?_|refine ZB ?_
 exact oY [0] rfl rfl (⟨rfl,by simp[BR.eF,BR.kv,ew,q6,h4]⟩);have h4:¬4<s.off:=Om;have h8:=h8 Om Om;refine A2 ?_;refine Zo (fun mz ρ l=>∃j:Nat,mz=s.off-j∧(j≤s.off)∧((BR.floads xs k j s).val<18446744073709551616)∧ρ=[(0,Vp b o)]∧l=[⟨b,o,[Vs bi (so+k) len cap,Vd ((BR.floads xs k j s).off),Vd ((BR.floads xs k j s).val),Va ((BR.floads xs k j s).rd)],sh⟩]) ⟨0,rfl,Om,gV,rfl,rfl⟩ ?_;rintro _ _ _ ⟨j,rfl,hj,wB,rfl,rfl⟩;have ho1:=BR.jZ (xs:=xs) (k:=k) (s:=s) j;have F9:=BR.qu (xs:=xs) (k:=k) (s:=s) j;have rW:=hx.at_ (k+((BR.floads xs k j s).off-1));refine A5 ?_;refine Zc (fun h3=>?_) (fun h3=>?_)
 refine A3 ?_;refine Zg 2097152 [bG,br,bE,c6,ij,bU,cE,cR,cN,Ch,ck,eg,dP,ady,eK,eU,akL,jP,sq,nO,ka,adx] ?_;refine A31 ?_;exact Zb ⟨j+1,rfl,Om,cC (Nat.mod_lt _ Od) Om,rfl,rfl⟩ (hs:=rfl);refine A4 ?_;exact dG [0] rfl rfl (⟨rfl,by simp[BR.eF,ew,q6,h4,show j=s.off by omega]⟩)
theorem ov (iv:Value) (len:Nat) (b o:Nat) (sh:bV) (s:BR) (h:s.OK len) (n:Nat) (hn:n≤64) (hr:s.rd≤64):aE Tryz.prog 126 [Vp b o,Va n] [⟨b,o,[iv,Vd s.off,Vd s.val,Va s.rd],sh⟩] [] (fun v l'=>v=Vb (s.mC n)∧l'=[⟨b,o,ew (iv) (s.fp n),sh⟩]):=by
 refine Zi Tryz.func126 rfl fun w0=>?_
 refine A2 ?_;have lG:=h.off;have gV:=h.val;have kL:=h.rd;refine Zg 0 [bG,br,bE,ig,dm,bU,cE,nN,cN,dM,ck,eg,dP,dI,eK,eU] ?_;refine X0 ?_;refine Yy (vn s.rd n) ?_;refine A5 ?_;repeat first|refine ZR ?_|refine ZB ?_
 exact cy [0] rfl rfl rfl (⟨rfl,rfl⟩)
theorem wa (iv:Value) (len:Nat) (b o:Nat) (sh:bV) (s:BR) (h:s.OK len) (n:Nat) (hn:n≤16) (h1:n≠0→s.rd<64) (hr:s.rd≤64):aE Tryz.prog 125 [Vp b o,Va n] [⟨b,o,[iv,Vd s.off,Vd s.val,Va s.rd],sh⟩] [] (fun v l'=>v=Vb (s.tL n)∧l'=[⟨b,o,ew (iv) (s.fp n),sh⟩]):=by
 refine Zi Tryz.func125 rfl fun w0=>?_
 refine A1 ?_;refine bN (G.seq ?_);have lG:=h.off;have gV:=h.val;have kL:=h.rd;refine A1 ?_;refine Zy (C6 n 0) ?_;refine Za 1 ?_;refine GL.split (t:=7) (p:=((n:Nat):Int)=((0:Nat):Int)) rfl (fun hn0=>?_) (fun hn0=>?_);refine A6 ?_;repeat first|refine ZR ?_|refine ZB ?_
 exact cy [0] rfl rfl rfl (⟨int_eq (by unfold BR.tL;rw[if_pos Om];rfl),by rw[show n=0 by omega,BR.Pk kL];rfl⟩);refine A5 ?_;refine G.eL rfl (by have:=h1 Om;omega) ?_;refine A1 ?_;refine cq [0] [] (ov (iv) _ b o sh s Oa n Om Om) rfl ?_;refine A3 ?_;repeat first|refine ZR ?_|refine ZB ?_
 exact cy [0] rfl rfl rfl (⟨int_eq (by unfold BR.tL;rw[if_neg Om]),rfl⟩)
theorem Cn (iv:Value) (len:Nat) (b o:Nat) (sh:bV) (s:BR) (h:s.OK len):aE Tryz.prog 127 [Vp b o] [⟨b,o,[iv,Vd s.off,Vd s.val,Va s.rd],sh⟩] [] (fun v l'=>v=.bool (decide (64≤s.rd∧s.off=0))∧l'=[⟨b,o,ew (iv) s,sh⟩]):=by
 refine Zi Tryz.func127 rfl fun w0=>?_
 refine A1 ?_;refine bN ?_;have lG:=h.off;have gV:=h.val;have kL:=h.rd;refine A3 ?_;refine Zy (v8 s.rd 64) ?_;refine Za 1 ?_;refine GL.split (t:=8) (p:=((64:Nat):Int)≤((s.rd:Nat):Int)) rfl (fun h1=>?_) (fun h1=>?_);refine A6 ?_;repeat first|refine ZR ?_|refine ZB ?_
 exact cy [0] rfl rfl rfl (⟨congrArg Value.bool (decide_eq_decide.2 Om),rfl⟩);refine A3 ?_;repeat first|refine ZR ?_|refine ZB ?_
 exact cy [0] rfl rfl rfl (⟨congrArg Value.bool ((decide_eq_false Om).symm),rfl⟩)
theorem vv (iv:Value) (len:Nat) (b o:Nat) (sh:bV) (s:BR) (h:s.OK len) (hr:s.rd≤64):aE Tryz.prog 97 [Vp b o] [⟨b,o,[iv,Vd s.off,Vd s.val,Va s.rd],sh⟩] [] (fun v l'=>v=.nilIface∧l'=[⟨b,o,ew Vn s,sh⟩]):=by
 refine Zi Tryz.func97 rfl fun w0=>?_
 refine G.seq ?_;have lG:=h.off;have gV:=h.val;have kL:=h.rd;refine A9 ?_;refine Zc (fun h1=>?_) (fun h1=>?_)
 exfalso;omega
 refine A3 ?_;repeat first|refine ZR ?_|refine ZB ?_
 exact cy [0] rfl rfl rfl (⟨rfl,rfl⟩)
theorem Qw (bi so:Nat) (cf:bV) (xs:List Nat) (k len cap:Nat) (hc:len≤cap) (hk:k+len≤xs.length) (hz:xs.length≤1152921504606846976) (hx:Bytes xs) (h1:1≤len) (hv:0<xs.getD (k+(len-1)) 0) (b o:Nat) (sh:bV) (c0 c1 c2 c3:Value):aE Tryz.prog 88 [Vp b o,Vs bi (so+k) len cap] [⟨b,o,[c0,c1,c2,c3],sh⟩] [⟨bi,so,(aa .u8 xs),cf⟩] (fun v l'=>v=.nilIface∧l'=[⟨b,o,ew (Vs bi (so+k) len cap) (BR.gx xs k len),sh⟩]):=by
 refine Zi Tryz.func88 rfl fun w0=>?_
 refine G.seq ?_;have hs0:BR.OK len ⟨len,0,64⟩:=⟨Nat.le_refl _,Oi,Oi⟩;have hlb:=hx.at_ (k+(len-1));have V6:aq (xs.getD (k+(len-1)) 0)≤8:=ym _ hlb;have C7:ia xs k len ⟨len,0,64⟩ (8*len) (tailV xs k len):=⟨hs0,Oi,Oi,Oi⟩;refine A5 ?_
 focus
  refine Zc (fun h1=>?_) (fun h1=>?_)
  exfalso;omega
  refine X0 ?_;refine Zc (fun h2=>?_) (fun h2=>?_)
  exfalso;omega
  refine A2 ?_;refine Ys (gg 0 3 fL.h) ?_;refine A2 ?_;refine Ys (gg 0 2 AV.h) ?_;refine A4 ?_;refine Zc (fun hq=>?_) (fun hq=>?_);have h8:8≤len:=Om;have hs8:BR.OK len (⟨(⟨len,0,64⟩:BR).off-8,my xs (k+((⟨len,0,64⟩:BR).off-8)),0⟩:BR):=⟨Oi,nr hx _,Oi⟩;refine A1 ?_;refine cq [0] [0] (uh bi so cf xs k len cap Om Om Om b o sh (⟨len,0,64⟩:BR) Oa Oa Om) rfl ?_;refine A1 ?_;refine Zh 4160 (YS 0 (YS 1 (YS 2 (YS 4 (YS 5 (.er 3 (YE 6 (YS 7 (YS 8 (YS 9 (YS 10 (YS 11 (YF 12 .nil)))))) .stop) (YE 6 (YS 7 (YS 8 (.st 3 true (YS 9 (YS 10 (YS 11 (YF 12 .nil))))))) .stop))))))) ?_;refine A3 ?_
  refine GT.er (dy 0 3 rfl rfl rfl cL.h rfl rfl) rfl rfl rfl rfl ?_ ?_;refine fJ [] [] (fE (xs.getD (k+(len-1)) 0) Om Om) rfl ?_ GT.stop;refine Cm ?_;rotate_left;refine fJ [] [] (fE (xs.getD (k+(len-1)) 0) Om Om) rfl ?_ GT.stop;refine vu ?_;rotate_left;have h8:¬8≤len:=Om;have e1:(⟨len,0,64⟩:BR).rd=64:=rfl;have e2:(⟨len,0,64⟩:BR).off=len:=rfl;obtain⟨wZ,hQ1,xc⟩:=C7.eF hx (fun _ _=>Oz);have hf2:=BR.vO (xs:=xs) (k:=k) (len:=len) Om;have Bm:=wZ.ok;have Xw:=wZ.rd;obtain⟨xd,hQ2,vw⟩:=wZ.eF hx (fun _ _=>hf2);have Ge:=xd.ok;have adV:=xd.rd;refine A1 ?_
  refine cq [0] [0] (ui bi so cf xs k len cap Om Om Om b o sh (⟨len,0,64⟩:BR) Oa Oa Om Om) rfl ?_;refine A1 ?_;refine cq [0] [0] (ui bi so cf xs k len cap Om Om Om b o sh (BR.eF xs k (⟨len,0,64⟩:BR)) Oa Oa Om Om) rfl ?_;refine A1 ?_;refine Zh 4160 (YS 0 (YS 1 (YS 2 (YS 4 (YS 5 (.er 3 (YE 6 (YS 7 (YS 8 (YS 9 (YS 10 (YS 11 (YF 12 .nil)))))) .stop) (YE 6 (YS 7 (YS 8 (.st 3 true (YS 9 (YS 10 (YS 11 (YF 12 .nil))))))) .stop))))))) ?_;refine A3 ?_;refine GT.er (dy 0 3 rfl rfl rfl cL.h rfl rfl) rfl rfl rfl rfl ?_ ?_;refine fJ [] [] (fE (xs.getD (k+(len-1)) 0) Om Om) rfl ?_ GT.stop;refine A2 ?_
  refine w7 (vn ((BR.eF xs k (BR.eF xs k (⟨len,0,64⟩:BR))).rd) (8-(aq (xs.getD (k+(len-1)) 0)-1))) ?_;refine A7 ?_;rotate_left;refine fJ [] [] (fE (xs.getD (k+(len-1)) 0) Om Om) rfl ?_ GT.stop;refine A3 ?_;refine w7 (vn ((BR.eF xs k (BR.eF xs k (⟨len,0,64⟩:BR))).rd) (8-(aq (xs.getD (k+(len-1)) 0)-1))) ?_;refine A7 ?_;rotate_left;all_goals
   repeat first|refine ZR ?_|refine ZB ?_
   exact cy [0] rfl rfl rfl (⟨rfl,by simp[BR.gx,BR.nw,ew,h8]⟩)
theorem iQ (bi so:Nat) (cf:bV) (xs:List Nat) (k len cap:Nat) (hc:len≤cap) (hk:k+len≤xs.length) (hz:xs.length≤1152921504606846976) (p:Nat) (hp:p≤len):aE Tryz.prog 82 [.agg #[Vs bi (so+k) len cap,Vh p]] [] [⟨bi,so,(aa .u8 xs),cf⟩] (fun v l'=>v=Vh (len-p)∧l'=[]):=by
 refine Zi Tryz.func82 rfl fun w0=>?_
 refine A1 ?_;refine Ze (jS rfl rfl rfl rfl rfl) fun b1=>?_
 refine Cm ?_;repeat first|refine ZR ?_|refine ZB ?_
 exact cy [] rfl rfl rfl (⟨rfl,rfl⟩)
theorem nR (bi so:Nat) (cf:bV) (xs:List Nat) (k len cap:Nat) (hc:len≤cap) (hk:k+len≤xs.length) (hz:xs.length≤1152921504606846976) (p:Nat) (hx:Bytes xs) (hp:p+4≤len):aE Tryz.prog 83 [.agg #[Vs bi (so+k) len cap,Vh p]] [] [⟨bi,so,(aa .u8 xs),cf⟩] (fun v l'=>v=Vc (eS xs (k+p))∧l'=[]):=by
 refine Zi Tryz.func83 rfl fun w0=>?_
 refine A1 ?_;refine Ze (jS rfl rfl rfl rfl rfl) fun b1=>?_
 refine A1 ?_;refine bN ?_;have AK:=hx.at_ (k+p);have rW:=hx.at_ (k+p+1);have n9:=hx.at_ (k+p+2);have uD:=hx.at_ (k+p+3);refine A5 ?_;refine Yy (dg (q':=so+(k+p)) (lo:=p) rfl rfl rfl ak.h Om Om) ?_;refine A3 ?_;refine Yy (Zx (so+(k+p+3)) 3 ak.h) ?_;refine A3 ?_;refine Yy (Zx (so+(k+p+2)) 2 ak.h) ?_;refine A3 ?_;refine Yy (Zx (so+(k+p+1)) 1 ak.h) ?_;refine A7 ?_;refine Yy (cw (xs.getD (k+p+1) 0) 8) ?_;refine A1 ?_;refine Yy (cw (xs.getD (k+p+2) 0) 16) ?_
 refine Yy (dx (m:=(xs.getD (k+p) 0)|||((xs.getD (k+p+1) 0)*2^8%4294967296)) (n:=(xs.getD (k+p+2) 0)*2^16%4294967296) rfl rfl rfl (bI Om Om) Om) ?_;refine Yy (cw (xs.getD (k+p+3) 0) 24) ?_;refine Yy (Zq (eS xs (k+p)) (dx (m:=((xs.getD (k+p) 0)|||((xs.getD (k+p+1) 0)*2^8%4294967296))|||((xs.getD (k+p+2) 0)*2^16%4294967296)) (n:=(xs.getD (k+p+3) 0)*2^24%4294967296) rfl rfl rfl (bI (bI Om Om) Om) Om) (by simp[eS])) ?_;refine A2 ?_;repeat first|refine ZR ?_|refine ZB ?_
 exact cy [] rfl rfl rfl (⟨rfl,rfl⟩)
theorem Hn (bi so:Nat) (cf:bV) (xs:List Nat) (k len cap:Nat) (hc:len≤cap) (hk:k+len≤xs.length) (hz:xs.length≤1152921504606846976) (p:Nat) (hp:p<len):aE Tryz.prog 89 [.agg #[Vs bi (so+k) len cap,Vh p]] [] [⟨bi,so,(aa .u8 xs),cf⟩] (fun v l'=>v=Vs bi (so+(k+p)) (len-p) (cap-p)∧l'=[]):=by
 refine Zi Tryz.func89 rfl fun w0=>?_
 refine A1 ?_;refine Ze (jS rfl rfl rfl rfl rfl) fun b1=>?_
 refine A6 ?_;refine Yy (dg (q':=so+(k+p)) (lo:=p) rfl rfl rfl ak.h Om Om) ?_;refine A2 ?_;repeat first|refine ZR ?_|refine ZB ?_
 exact cy [] rfl rfl rfl (⟨rfl,rfl⟩)
theorem pG (iv:Value) (b o:Nat) (sh:bV) (p n:Nat) (hp:p+n<9223372036854775808):aE Tryz.prog 84 [Vp b o,Vd n] [⟨b,o,[iv,Vh p],sh⟩] [] (fun v l'=>v=.tuple #[]∧l'=[⟨b,o,[iv,Vh (p+n)],sh⟩]):=by
 refine Zi Tryz.func84 rfl fun w0=>?_
 refine A8 ?_;exact dG [0] rfl rfl (⟨rfl,rfl⟩)
theorem EN (c0 c1:Value) (q:Option Addr) (n c b o:Nat) (sh:bV):aE Tryz.prog 81 [Vp b o,.slice q n c] [⟨b,o,[c0,c1],sh⟩] [] (fun v l'=>v=.tuple #[]∧l'=[⟨b,o,[.slice q n c,Vh 0],sh⟩]):=by
 refine Zi Tryz.func81 rfl fun w0=>?_
 refine A5 ?_;refine Ys (gg 0 1 zJ.h) ?_;refine A1 ?_;exact dG [0] rfl rfl (⟨rfl,rfl⟩)
theorem wb (n:Nat) (hn:n≤4096):aE Tryz.prog 86 [Vc n] [] [] (fun v l'=>v=Vc (n/2^1+n/2^3+3)∧l'=[]):=by
 refine Zi Tryz.func86 rfl fun w0=>?_
 refine A8 ?_;repeat first|refine ZR ?_|refine ZB ?_
 exact cy [] rfl rfl rfl (⟨rfl,rfl⟩)
theorem Co (bt ot tn an:Nat) (gH:bV) (T:List (Nat × Nat × Nat)) (zo:tn≤T.length) (bd od:Nat) (sS:bV) (a:Nat) (iv:Value) (len:Nat) (b o:Nat) (sh:bV) (s:BR) (h:s.OK len) (ha:a<tn) (hbs:(T.getD a (0,0,0)).2.2+s.mC (T.getD a (0,0,0)).2.1<65536) (hbn:(T.getD a (0,0,0)).2.1≤16) (hr:s.rd≤64):aE Tryz.prog 92 [Vp bd od] [⟨bd,od,[Vb a,Vp b o,Vs bt ot tn an],sS⟩,⟨b,o,[iv,Vd s.off,Vd s.val,Va s.rd],sh⟩] [⟨bt,ot,(rows fD T),gH⟩] (fun v l'=>v=Va ((T.getD a (0,0,0)).1)∧l'=[⟨bd,od,[Vb ((T.getD a (0,0,0)).2.2+s.mC (T.getD a (0,0,0)).2.1),Vp b o,Vs bt ot tn an],sS⟩,⟨b,o,ew iv (s.fp (T.getD a (0,0,0)).2.1),sh⟩]):=by
 refine Zi Tryz.func92 rfl fun w0=>?_
 refine A2 ?_;refine Zh 3072 (YS 0 (YS 1 (YS 2 (YS 4 (YS 5 (YS 6 (.er 3 (.er 7 (YS 8 (.er 9 (YF 10 (YF 11 .nil)) (YF 10 (.st 9 true (YF 11 .nil))))) (YF 10 (.st 7 true (YS 8 (.st 9 true (YF 11 .nil)))))) (.er 7 (.er 3 (YS 8 (.er 9 (YF 10 (YF 11 .nil)) (YF 10 (.st 9 true (YF 11 .nil))))) (YF 10 (.st 3 true (YS 8 (.st 9 true (YF 11 .nil)))))) (YE 10 (.st 3 true (.st 7 true (YS 8 (.st 9 true (YF 11 .nil))))) .stop))))))))) ?_;refine A3 ?_
 focus
  refine GT.er (dy 0 2 rfl rfl rfl Qg.h rfl rfl) rfl rfl rfl rfl ?_ ?_;refine GT.er (dy 0 0 rfl rfl rfl cU.h rfl rfl) rfl rfl rfl rfl ?_ ?_;refine Zty (eI (q':=ot+(a*3)) (m:=a) rfl rfl rfl jC.h Om Om) ?_;refine GT.er (av (vs:=fD (T.getD a (0,0,0))) 0 (a*3) rfl rfl rfl pE.h lZ.h rfl (cK fy (0,0,0) Om) rfl) rfl rfl rfl rfl ?_ ?_;refine GT.c8 (iN pF.h) rfl rfl ?_ GT.stop;rintro _ _ ⟨b1,rfl,rfl⟩;rotate_left;refine GT.c8 (iN pF.h) rfl rfl ?_ GT.stop;rintro _ _ ⟨b2,rfl,rfl⟩;refine vl (av (vs:=fD (T.getD a (0,0,0))) 0 (a*3) rfl rfl rfl pE.h lZ.h rfl (cK fy (0,0,0) Om) rfl) ?_;rotate_left
  refine GT.c8 (iN pF.h) rfl rfl ?_ GT.stop;rintro _ _ ⟨b3,rfl,rfl⟩;refine A1 ?_;refine w7 (eI (q':=ot+(a*3)) (m:=a) rfl rfl rfl jC.h Om Om) ?_;refine vl (av (vs:=fD (T.getD a (0,0,0))) 0 (a*3) rfl rfl rfl pE.h lZ.h rfl (cK fy (0,0,0) Om) rfl) ?_;rotate_left;refine GT.er (dy 0 0 rfl rfl rfl cU.h rfl rfl) rfl rfl rfl rfl ?_ ?_;refine GT.er (dy 0 2 rfl rfl rfl Qg.h rfl rfl) rfl rfl rfl rfl ?_ ?_;refine Zty (eI (q':=ot+(a*3)) (m:=a) rfl rfl rfl jC.h Om Om) ?_;refine GT.er (av (vs:=fD (T.getD a (0,0,0))) 0 (a*3) rfl rfl rfl pE.h lZ.h rfl (cK fy (0,0,0) Om) rfl) rfl rfl rfl rfl ?_ ?_
  refine GT.c8 (iN pF.h) rfl rfl ?_ GT.stop;rintro _ _ ⟨b4,rfl,rfl⟩;rotate_left;refine GT.c8 (iN pF.h) rfl rfl ?_ GT.stop;rintro _ _ ⟨b5,rfl,rfl⟩;refine vl (av (vs:=fD (T.getD a (0,0,0))) 0 (a*3) rfl rfl rfl pE.h lZ.h rfl (cK fy (0,0,0) Om) rfl) ?_;rotate_left;refine GT.c8 (iN pF.h) rfl rfl ?_ GT.stop;rintro _ _ ⟨b6,rfl,rfl⟩;refine A1 ?_;refine w7 (eI (q':=ot+(a*3)) (m:=a) rfl rfl rfl jC.h Om Om) ?_;refine vl (av (vs:=fD (T.getD a (0,0,0))) 0 (a*3) rfl rfl rfl pE.h lZ.h rfl (cK fy (0,0,0) Om) rfl) ?_;rotate_left;refine GT.c8 (iN pF.h) rfl rfl ?_ GT.stop;rintro _ _ ⟨b7,rfl,rfl⟩;refine A2 ?_
  refine w7 (eI (q':=ot+(a*3)) (m:=a) rfl rfl rfl jC.h Om Om) ?_;refine vl (av (vs:=fD (T.getD a (0,0,0))) 0 (a*3) rfl rfl rfl pE.h lZ.h rfl (cK fy (0,0,0) Om) rfl) ?_;rotate_left;all_goals
   refine AQ (iA 0 lZ.h) ?_;refine A3 ?_;refine Zg 64 [bG,br,bE,ig,dm,Kz,e_6,cR] ?_;refine A5 ?_;refine eu [2] [] (ov (iv) _ b o sh s Oa ((T.getD a (0,0,0)).2.1) Om Om) rfl ?_;refine LY ?_;repeat first|refine ZR ?_|refine ZB ?_
   exact cy [2,0] rfl rfl rfl (⟨rfl,rfl⟩)
theorem Qx (bt ot tn an:Nat) (gH:bV) (T:List (Nat × Nat × Nat)) (zo:tn≤T.length) (bd od:Nat) (sS:bV) (a:Nat) (iv:Value) (len:Nat) (b o:Nat) (sh:bV) (s:BR) (h:s.OK len) (ha:a<tn) (hbs:(T.getD a (0,0,0)).2.2+s.tL (T.getD a (0,0,0)).2.1<65536) (hbn:(T.getD a (0,0,0)).2.1≤16) (h1:(T.getD a (0,0,0)).2.1≠0→s.rd<64) (hr:s.rd≤64):aE Tryz.prog 93 [Vp bd od] [⟨bd,od,[Vb a,Vp b o,Vs bt ot tn an],sS⟩,⟨b,o,[iv,Vd s.off,Vd s.val,Va s.rd],sh⟩] [⟨bt,ot,(rows fD T),gH⟩] (fun v l'=>v=Va ((T.getD a (0,0,0)).1)∧l'=[⟨bd,od,[Vb ((T.getD a (0,0,0)).2.2+s.tL (T.getD a (0,0,0)).2.1),Vp b o,Vs bt ot tn an],sS⟩,⟨b,o,ew iv (s.fp (T.getD a (0,0,0)).2.1),sh⟩]):=by
 refine Zi Tryz.func93 rfl fun w0=>?_
 refine A2 ?_;refine Zg 0 [bG,br,bE,ig,dm,bU,cE,nN,cN,dM] ?_;refine A5 ?_;refine aN (eI (q':=ot+(a*3)) (m:=a) rfl rfl rfl jC.h Om Om) ?_;refine A3 ?_;refine Zg 256 [bG,br,bE,ig,dm,bU,cE,nN,Ez,dM] ?_;refine A4 ?_;refine ko (iz 0 (a*3+2) cL.h rfl (JW Om)) ?_;refine eu [1] [] (wa (iv) _ b o sh s Oa ((T.getD a (0,0,0)).2.1) Om Om Om) rfl ?_;refine A5 ?_;refine Yr (iz 0 (a*3) cU.h rfl (Xd Om)) ?_;refine A5 ?_;refine Yr (iz 0 (a*3+1) cL.h rfl (JV Om)) ?_;refine A2 ?_;repeat first|refine ZR ?_|refine ZB ?_
 exact cy [1,0] rfl rfl rfl (⟨rfl,rfl⟩)
theorem Cp (bt ot tn an:Nat) (gH:bV) (T:List (Nat × Nat × Nat)) (zo:tn≤T.length) (bd od:Nat) (sS:bV) (a:Nat) (iv:Value) (len:Nat) (b o:Nat) (sh:bV) (s:BR) (h:s.OK len) (ha:a<tn):aE Tryz.prog 94 [Vp bd od] [⟨bd,od,[Vb a,Vp b o,Vs bt ot tn an],sS⟩,⟨b,o,[iv,Vd s.off,Vd s.val,Va s.rd],sh⟩] [⟨bt,ot,(rows fD T),gH⟩] (fun v l'=>v=.bool (decide ((64≤s.rd∧s.off=0)∧0<(T.getD a (0,0,0)).2.1))∧l'=[⟨bd,od,[Vb a,Vp b o,Vs bt ot tn an],sS⟩,⟨b,o,ew iv s,sh⟩]):=by
 refine Zi Tryz.func94 rfl fun w0=>?_
 refine A2 ?_;refine Zg 16 [bG,br,bE,ig,e_4,bU,cE,cR,cN,Ch,ck,eg,dP,ady,eK,eU,akL,jP,sq,nO] ?_;refine A3 ?_;refine eu [1] [] (Cn (iv) _ b o sh s Oa) rfl ?_;refine Zpa 1 ?_;refine GP.split (t:=8) (p:=64≤s.rd∧s.off=0) rfl (fun h1=>?_) (fun h1=>?_);refine A5 ?_;refine aN (eI (q':=ot+(a*3)) (m:=a) rfl rfl rfl jC.h Om Om) ?_;refine A1 ?_;refine ko (iz 0 (a*3+2) cL.h rfl (JW Om)) ?_;refine A4 ?_;repeat first|refine ZR ?_|refine ZB ?_
 exact cy [1,0] rfl rfl rfl (⟨congrArg Value.bool (decide_eq_decide.2 Om),rfl⟩);refine Zpa 3 ?_;refine GP.Nd rfl rfl rfl rfl ?_;refine Zpa 3 ?_;refine GP.Nd rfl rfl rfl rfl ?_;refine Zpa 2 ?_;refine GP.Nd rfl rfl rfl rfl ?_;refine A4 ?_;repeat first|refine ZR ?_|refine ZB ?_
 exact cy [1,0] rfl rfl rfl (⟨congrArg Value.bool (decide_eq_false Om).symm,rfl⟩)
theorem LZ (bt ot tn an:Nat) (gH:bV) (T:List (Nat × Nat × Nat)) (zo:tn≤T.length) (bd od:Nat) (sS:bV) (a:Nat) (iv:Value) (len:Nat) (b o:Nat) (sh:bV) (s:BR) (h:s.OK len) (ha:a<tn):aE Tryz.prog 95 [Vp bd od] [⟨bd,od,[Vb a,Vp b o,Vs bt ot tn an],sS⟩,⟨b,o,[iv,Vd s.off,Vd s.val,Va s.rd],sh⟩] [⟨bt,ot,(rows fD T),gH⟩] (fun v l'=>v=Va ((T.getD a (0,0,0)).1)∧l'=[⟨bd,od,[Vb a,Vp b o,Vs bt ot tn an],sS⟩,⟨b,o,ew iv s,sh⟩]):=by
 refine Zi Tryz.func95 rfl fun w0=>?_
 refine A2 ?_;refine Zg 0 [bG,br,bE,ig,dm,bU,cE,nN,cN,dM,zH,eg] ?_;refine A5 ?_;refine aN (eI (q':=ot+(a*3)) (m:=a) rfl rfl rfl jC.h Om Om) ?_;refine A1 ?_;refine ko (iz 0 (a*3+1) cL.h rfl (JV Om)) ?_;refine A3 ?_;repeat first|refine ZR ?_|refine ZB ?_
 exact cy [0,0] rfl rfl rfl (⟨rfl,rfl⟩)
theorem EO (bt ot tn an:Nat) (gH:bV) (T:List (Nat × Nat × Nat)) (zo:tn≤T.length) (bd od:Nat) (sS:bV) (c0 c1 c2:Value) (iv:Value) (len:Nat) (b o:Nat) (sh:bV) (s:BR) (h:s.OK len) (hr:s.rd<64):aE Tryz.prog 90 [Vp bd od,Vp b o,Vs bt ot tn an,Va 5] [⟨bd,od,[c0,c1,c2],sS⟩,⟨b,o,[iv,Vd s.off,Vd s.val,Va s.rd],sh⟩] [⟨bt,ot,(rows fD T),gH⟩] (fun v l'=>v=.tuple #[]∧l'=[⟨bd,od,[Vb (s.mC 5),Vp b o,Vs bt ot tn an],sS⟩,⟨b,o,ew iv (s.fp 5),sh⟩]):=by
 refine Zi Tryz.func90 rfl fun w0=>?_
 refine A7 ?_;refine cq [1] [] (wa (iv) _ b o sh s Oa 5 Om Om Om) rfl ?_;refine A4 ?_;exact dG [1,0] rfl rfl (⟨rfl,rfl⟩)
theorem X7 (sA:au) (qA:Option Addr) (nA cA jA:Nat) (ch:List Nat) (hA:Rd qA nA 1 (aa .u8 ch) sA jA) (sB:au) (qB:Option Addr) (nB cB jB:Nat) (oM:List Nat) (hB:Rd qB nB 1 (aa .u8 oM) sB jB) (hz:nA≤1152921504606846976):aE Tryz.prog 12 [.slice qA nA cA,.slice qB nB cB] [] [sA,sB] (fun v' l'=>v'=.bool (decide (ch=oM))∧l'=[]):=by
 refine Zi Tryz.func12 rfl fun w0=>?_
 refine G.seq ?_;have wM:=hA.lV;have hlB:=hB.lV;refine A6 ?_;refine Zc (fun hn0=>?_) (fun hn0=>?_);refine A3 ?_;repeat first|refine ZR ?_|refine ZB ?_
 exact cy [] rfl rfl rfl (⟨congrArg Value.bool (decide_eq_false (fun e=>hn0 (by rw[←wM, ←hlB,e]))).symm,rfl⟩);refine A5 ?_;refine Zo (fun mz ρ l=>∃i:Nat,mz=nA-i∧(i≤nA∧ch.take i=oM.take i)∧ρ=[(0,.slice qA nA cA),(1,.slice qB nB cB),(12,Vh nA),(13,Vh i)]∧l=[]) ⟨0,rfl,⟨Om,rfl⟩,rfl,rfl⟩ ?_;rintro _ _ _ ⟨i,rfl,hi,rfl,rfl⟩;refine A3 ?_;refine Zc (fun h1=>?_) (fun h1=>?_);refine A5 ?_;refine Zg 0 [bG,br,bE,ig,dm,bU,cE,nN,cN] ?_;refine A1 ?_;refine aN (o6 (q':=sA.o+(jA+i)) (m:=i) rfl rfl rfl ak.h Om (hA.ad Om) Om) ?_;refine ko (iz 0 (jA+i) cL.h rfl (hA.Bv Om)) ?_
 refine aN (o6 (q':=sB.o+(jB+i)) (m:=i) rfl rfl rfl ak.h Om (hB.ad Om) Om) ?_;refine ko (iz 1 (jB+i) cL.h rfl (hB.Bv Om)) ?_;refine A3 ?_;refine Zc (fun F7=>?_) (fun F7=>?_);refine A3 ?_;repeat first|refine ZR ?_|refine ZB ?_
 exact cy [] rfl rfl rfl (⟨congrArg Value.bool (decide_eq_false (fun e=>F7 (by rw[e]))).symm,rfl⟩);refine A6 ?_;exact Zb ⟨(i+1),rfl,⟨Om,Xa hi.2 Om Om Om⟩,rfl,rfl⟩;refine A8 ?_;repeat first|refine ZR ?_|refine ZB ?_
 exact cy [] rfl rfl rfl (⟨congrArg Value.bool (decide_eq_true (Xb hi.2 Om Om)).symm,rfl⟩)
theorem iC (sA:au) (qA:Option Addr) (nA cA jA:Nat) (ch:List Nat) (hA:Rd qA nA 1 (aa .u8 ch) sA jA) (hz:nA≤1073741824):aE Tryz.prog 26 [.slice qA nA cA] [] [sA] (W8 .u8 (fun ys=>ys=ch)):=by
 refine Zi Tryz.func26 rfl fun w0=>?_
 refine G.seq ?_;have wM:=hA.lV;refine A2 ?_;refine Ze (fc (ps:=[]) (pv:=[]) (vs:=[]) 1 rfl ⟨rfl,rfl⟩ aD Od Ov rfl rfl) fun b1=>?_
 refine A1 ?_;refine GL.c8 (ik (k:=.u8) (n:=0) (m:=nA) (xs:=[]) (ys:=ch) 0 rfl rfl rfl rfl aD rfl rfl ⟨Oi,.inl rfl⟩ rfl (Src.ajR 1 rfl hA) Oq rfl rfl) rfl ?_;rintro _ _ ⟨q2,b3,o4,L3,vx,L4,EP,ht9,rfl,rfl⟩;refine A3 ?_;repeat first|refine ZR ?_|refine ZB ?_
 exact cy [0] rfl rfl rfl (W8.mk L4 EP ht9 (by first|assumption|rfl|(simp;omega)|simp_all) Oi)
end Go.Proofs.YtekcchgffhphbaaGreatDoor
