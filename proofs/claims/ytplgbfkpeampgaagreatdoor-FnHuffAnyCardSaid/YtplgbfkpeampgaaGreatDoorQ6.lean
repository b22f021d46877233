/- Walks (printed by a program of my own). -/
import Derived.Test.YtplgbfkpeampgaaGreatDoorQ5
set_option linter.unusedVariables false
set_option linter.unusedSimpArgs false
set_option maxRecDepth 100000
namespace Go.Proofs.YtplgbfkpeampgaaGreatDoor
open Go
theorem and63e {n c:Nat} (h:n<64):(n+256*c)&&&63=n:=by rw[show(63:Nat)=2^6-1 from rfl,Nat.and_two_pow_sub_one_eq_mod];omega
theorem shift8 {L:Nat} (h1:1≤L) (h8:L≤8):(56+(8-L))&&&63=64-L:=by
  rw[show(63:Nat)=2^6-1 from rfl,Nat.and_two_pow_sub_one_eq_mod];omega
theorem RdT.folded {xs:List Nat} {k len:Nat} {cd:Nat→Nat × Nat} {S:Nat→Prop} {s:BR} {t:List Nat} {n X Y:Nat} (h:RdT xs k len cd S (s.adv n) t) (hn:n<64) (hX:X=s.val*2^n%18446744073709551616) (hY:Y=s.rd+n) (hr:s.rd+n≤64):
    ∃s',RdT xs k len cd S s' t∧s.off=s'.off∧X=s'.val∧Y=s'.rd:=by
  have h63:n&&&63=n:=by rw[show(63:Nat)=2^6-1 from rfl,Nat.and_two_pow_sub_one_eq_mod];exact Nat.mod_eq_of_lt hn
  exact⟨s.adv n,h,rfl,by rw[hX];simp[BR.adv,h63],by rw[hY];simp[BR.adv];omega⟩
theorem RdT.load4' {xs:List Nat} {k len:Nat} {cd:Nat→Nat × Nat} {S:Nat→Prop} {s:BR} {t:List Nat} {X:Nat} (h:RdT xs k len cd S s t) (hb:Bytes xs) (hr:32≤s.rd) (ho:4≤s.off) (hX:X=le32 xs (k+(s.off-4))):
    ∃s',RdT xs k len cd S s' t∧s.val|||X*2^(s.rd-32)%18446744073709551616=s'.val∧s.rd-32=s'.rd∧s.off-4=s'.off:=⟨s.load4 xs k,⟨h.pos.load4 hb hr ho,h.all⟩,by rw[hX];rfl,rfl,rfl⟩
theorem c_finished_Bytes (iv:Value) (len b o:Nat) (sh:Shp) (s:BR) (h:s.OK len) (hr:s.rd≤64) (h0:0<8*s.off+(64-s.rd)):Con Tryz.prog 63 [Vp b o] [⟨b,o,[iv,Vd s.off,Vd s.val,Va s.rd],sh⟩] [] (fun v l'=>v=.bool false∧l'=[⟨b,o,brC iv s,sh⟩]):=by
 refine Zi Tryz.func63 rfl fun w0=>?_
 refine G.seq ?_
 have hv:=h.val
 have hro:=h.rd
 refine YG ?_
 refine Y2 ?_
 refine Yy (Zf fo_150_1) ?_
 refine Yr (Zl 0 1 ag_39) ?_
 refine Zy (Zeq s.off 0) ?_
 refine Za 1 ?_
 refine GL.split (t:=8) (p:=((s.off:Nat):Int)=((0:Nat):Int)) rfl (fun h1=>?_) (fun h1=>?_)
 refine Ya ?_
 refine Yy (Zf fo_150_3) ?_
 refine Yr (Zl 0 3 ag_5) ?_
 refine Yy (Zge s.rd 64) ?_
 refine Zn (G.ret ?_)
 repeat first|refine ZR ?_|refine ZB ?_
 exact ret1 [0] rfl rfl rfl (⟨by first|rfl|(congr 1;simp;omega),rfl⟩)
 refine Ya ?_
 refine Zn (G.ret ?_)
 repeat first|refine ZR ?_|refine ZB ?_
 exact ret1 [0] rfl rfl rfl (⟨by first|rfl|(congr 1;simp;omega),rfl⟩)
set_option maxHeartbeats 8000000 in
theorem c_D4X_8 (bi so:Nat) (shi:Shp) (xs:List Nat) (k len cap:Nat) (hc:len≤cap) (hk:k+len≤xs.length) (hz:xs.length≤1152921504606846976) (hb:Bytes xs)
    (bt to tcap:Nat) (sht:Shp) (dt:List Nat) (hdl:dt.length=2048) (htc:2048≤tcap) (L:Nat) (cd:Nat→Nat × Nat) (S:Nat→Prop) (hT:Tab dt L cd S)
    (be eo:Nat) (she:Shp) (dp:Value) (bd:Nat) (zs text:List Nat) (hzs:zs.length=text.length) (h48:text.length≤1073741824)
    (ev m3:Nat) (hm3:text.length=3*ev+m3) (hm31:1≤m3∧m3≤ev∧ev≤m3+3) (st1 st2 st3 ln0 ln1 ln2 ln3:Nat) (hs1:st1=6+ln0) (hs2:st2=st1+ln1) (hs3:st3=st2+ln2) (hs4:len=st3+ln3)
    (hln:1≤ln0∧1≤ln1∧1≤ln2∧1≤ln3) (hj0:xs.getD k 0=ln0%256∧xs.getD (k+1) 0=ln0/256) (hj1:xs.getD (k+2) 0=ln1%256∧xs.getD (k+3) 0=ln1/256) (hj2:xs.getD (k+4) 0=ln2%256∧xs.getD (k+5) 0=ln2/256)
    (hb0:0<xs.getD (k+6+(ln0-1)) 0) (hb1:0<xs.getD (k+st1+(ln1-1)) 0) (hb2:0<xs.getD (k+st2+(ln2-1)) 0) (hb3:0<xs.getD (k+st3+(ln3-1)) 0) (hL8:L≤8) (hL:L=8) (hI0:RdT xs (k+6) ln0 cd S (BR.init 4 xs (k+6) ln0) (sub text (ev*0) ev)) (hI1:RdT xs (k+st1) ln1 cd S (BR.init 4 xs (k+st1) ln1) (sub text (ev*1) ev)) (hI2:RdT xs (k+st2) ln2 cd S (BR.init 4 xs (k+st2) ln2) (sub text (ev*2) ev)) (hI3:RdT xs (k+st3) ln3 cd S (BR.init 4 xs (k+st3) ln3) (sub text (ev*3) m3)):Con Tryz.prog 59 [Vp be eo,Vs bd 0 0 text.length,Vs bi (so+k) len cap] [⟨bd,0,(nats .u8 zs),none⟩] [⟨be,eo,[Vs bt to 2048 tcap,Va L,dp],she⟩,⟨bt,to,(nats .u16 dt),sht⟩,⟨bi,so,(nats .u8 xs),shi⟩] (fun v l'=>∃q b o cs cap,v=.tuple #[.slice q text.length cap,.nilIface]∧GS q b o cs 1 cap∧text.length≤cap∧cs.take text.length=nats .u8 text∧l'=[⟨b,o,cs,none⟩]):=by
 refine Zi Tryz.func59 rfl fun w0=>?_
 refine G.seq ?_
 have hL1:=hT.L1
 have hev:ev=(text.length+3)/4:=Om
 have hx0:=hb.at_ k
 have hx1:=hb.at_ (k+1)
 have hx2:=hb.at_ (k+2)
 have hx3:=hb.at_ (k+3)
 have hx4:=hb.at_ (k+4)
 have hx5:=hb.at_ (k+5)
 have hLL:=pow_le hL8
 refine YG ?_
 refine Y2 ?_
 refine Ze (Zal zc_151) fun b1=>?_
 refine Z4 ?_
 refine G.cut2 (o':=4) (xs:=[.slice none 0 0,Vd 0,Vd 0,Va 0]) (ys:=[.slice none 0 0,Vd 0,Vd 0,Va 0,.slice none 0 0,Vd 0,Vd 0,Va 0,.slice none 0 0,Vd 0,Vd 0,Va 0]) 0 rfl rfl rfl ?_
 refine G.cut2 (o':=8) (xs:=[.slice none 0 0,Vd 0,Vd 0,Va 0]) (ys:=[.slice none 0 0,Vd 0,Vd 0,Va 0,.slice none 0 0,Vd 0,Vd 0,Va 0]) 1 rfl rfl rfl ?_
 refine G.cut2 (o':=12) (xs:=[.slice none 0 0,Vd 0,Vd 0,Va 0]) (ys:=[.slice none 0 0,Vd 0,Vd 0,Va 0]) 1 rfl rfl rfl ?_
 refine YG ?_
 refine Y3 ?_
 refine Zn (G.block ?_)
 refine G.pick [3,2,0,0,0] rfl ?_
 refine Zo (fun mz ρ l=>(mz=3∧ρ=[(0,Vp be eo),(1,Vs bd 0 0 text.length),(2,Vs bi (so+k) len cap),(6,.slice none 0 0),(7,Value.nilIface),(8,Vp b1 0),(9,Vh 6),(40,Vh 0)]∧l=[⟨b1,0,[.slice none 0 0,Vd 0,Vd 0,Va 0],none⟩,⟨b1,4,[.slice none 0 0,Vd 0,Vd 0,Va 0],none⟩,⟨b1,8,[.slice none 0 0,Vd 0,Vd 0,Va 0],none⟩,⟨b1,12,[.slice none 0 0,Vd 0,Vd 0,Va 0],none⟩,⟨bd,0,(nats .u8 zs),none⟩])∨(mz=2∧ρ=[(0,Vp be eo),(1,Vs bd 0 0 text.length),(2,Vs bi (so+k) len cap),(6,.slice none 0 0),(7,Value.nilIface),(8,Vp b1 0),(9,Vh st1),(40,Vh 1)]∧l=[⟨b1,0,[Vs bi (so+(k+6)) ln0 (cap-6),Vd ((BR.init 4 xs (k+6) ln0).off),Vd ((BR.init 4 xs (k+6) ln0).val),Va ((BR.init 4 xs (k+6) ln0).rd)],none⟩,⟨b1,4,[.slice none 0 0,Vd 0,Vd 0,Va 0],none⟩,⟨b1,8,[.slice none 0 0,Vd 0,Vd 0,Va 0],none⟩,⟨b1,12,[.slice none 0 0,Vd 0,Vd 0,Va 0],none⟩,⟨bd,0,(nats .u8 zs),none⟩])∨(mz=1∧ρ=[(0,Vp be eo),(1,Vs bd 0 0 text.length),(2,Vs bi (so+k) len cap),(6,.slice none 0 0),(7,Value.nilIface),(8,Vp b1 0),(9,Vh st2),(40,Vh 2)]∧l=[⟨b1,0,[Vs bi (so+(k+6)) ln0 (cap-6),Vd ((BR.init 4 xs (k+6) ln0).off),Vd ((BR.init 4 xs (k+6) ln0).val),Va ((BR.init 4 xs (k+6) ln0).rd)],none⟩,⟨b1,4,[Vs bi (so+(k+st1)) ln1 (cap-st1),Vd ((BR.init 4 xs (k+st1) ln1).off),Vd ((BR.init 4 xs (k+st1) ln1).val),Va ((BR.init 4 xs (k+st1) ln1).rd)],none⟩,⟨b1,8,[.slice none 0 0,Vd 0,Vd 0,Va 0],none⟩,⟨b1,12,[.slice none 0 0,Vd 0,Vd 0,Va 0],none⟩,⟨bd,0,(nats .u8 zs),none⟩])∨(mz=0∧ρ=[(0,Vp be eo),(1,Vs bd 0 0 text.length),(2,Vs bi (so+k) len cap),(6,.slice none 0 0),(7,Value.nilIface),(8,Vp b1 0),(9,Vh st3),(40,Vh 3)]∧l=[⟨b1,0,[Vs bi (so+(k+6)) ln0 (cap-6),Vd ((BR.init 4 xs (k+6) ln0).off),Vd ((BR.init 4 xs (k+6) ln0).val),Va ((BR.init 4 xs (k+6) ln0).rd)],none⟩,⟨b1,4,[Vs bi (so+(k+st1)) ln1 (cap-st1),Vd ((BR.init 4 xs (k+st1) ln1).off),Vd ((BR.init 4 xs (k+st1) ln1).val),Va ((BR.init 4 xs (k+st1) ln1).rd)],none⟩,⟨b1,8,[Vs bi (so+(k+st2)) ln2 (cap-st2),Vd ((BR.init 4 xs (k+st2) ln2).off),Vd ((BR.init 4 xs (k+st2) ln2).val),Va ((BR.init 4 xs (k+st2) ln2).rd)],none⟩,⟨b1,12,[.slice none 0 0,Vd 0,Vd 0,Va 0],none⟩,⟨bd,0,(nats .u8 zs),none⟩])) (Or.inl ⟨rfl,rfl,rfl⟩) ?_
 rintro _ _ _ (⟨rfl,rfl,rfl⟩|⟨rfl,rfl,rfl⟩|⟨rfl,rfl,rfl⟩|⟨rfl,rfl,rfl⟩)
 refine Y5 ?_
 refine Yy (Zlt 0 3) ?_
 refine Z4 ?_
 refine G.condDT rfl Od ?_
 refine Z7 (G.seq (G.block (Y5 ?_)))
 refine Z4 ?_
 refine Zg 0 [y_0,y_1,y_2,y_3,r_4,y_5,y_6,y_7,y_8,y_9,y_10,r_11,y_12,y_13,y_14,y_15] ?_
 refine Ypa ?_
 refine Ypy (Zq 0 (ZmulNh 0 2) Od) ?_
 refine Ypy (Zx (so+k) 0 se_22) ?_
 refine Ypr (Zkc 2 k ag_5 rfl (nats_get Oy)) ?_
 refine Ypy (ZcvNh (xs.getD k 0) un_5 un_3) ?_
 refine Ypy (Zq 0 (ZmulNh 0 2) Od) ?_
 refine Ypy (Zq 1 (ZaddNh 0 1) Od) ?_
 refine Ypy (Zx (so+(k+1)) 1 se_22) ?_
 refine Ypr (Zkc 2 (k+1) ag_5 rfl (nats_get Oy)) ?_
 refine Ypy (ZcvNh (xs.getD (k+1) 0) un_5 un_3) ?_
 refine Ypy (ZshlNh (xs.getD (k+1) 0) 8) ?_
 refine Ypy (Zq ln0 (ZorNh (xs.getD k 0) ((xs.getD (k+1) 0)*2^8)) (jt hj0)) ?_
 refine GP.nil (GQ.thenN (Y6 ?_))
 refine Yy (ZaddNh 6 ln0) ?_
 refine Yy (Zlen un_22) ?_
 refine Yy (Zge (6+ln0) len) ?_
 refine Zn ?_
 refine Zc (fun h2=>?_) (fun h2=>?_)
 exfalso;omega
 refine Z7 (G.seq ?_)
 refine Zg 256 [y_0,y_1,y_2,y_3,y_4,y_5,y_6,y_7,e_8,y_9] ?_
 refine Ypa ?_
 refine Ypy (Zxa 0 0 ae_151) ?_
 refine Ypy (ZaddNh 6 ln0) ?_
 refine Ypy (y_congr (y_slLH (q':=so+(k+6)) (lo:=6) (hi:=6+ln0) rfl rfl rfl rfl se_22 Om Om) (slice_eq (a:=6+ln0-6) (a':=ln0) (b:=cap-6) (b':=cap-6) Om Om)) ?_
 refine Zpcc [0] [6] (c_init_Bytes bi so shi xs (k+6) ln0 (cap-6) Om Om Om Oa Om Oa b1 0 none _ _ _ _) rfl ?_
 refine Ypa ?_
 refine GP.nil (GQ.thenN (Y6 ?_))
 refine Yy (y_neNilNil rfl rfl un_52) ?_
 refine Zn (G.condF rfl (Z7 (YG ?_)))
 refine Yy (Zq st1 (ZaddNh 6 ln0)) ?_
 refine GL.nil (GQ.blockN (GQ.thenN (YG ?_)))
 refine Yy (Zq 1 (ZaddNh 0 1) Od) ?_
 refine GL.nil ?_
 exact Zb (Or.inr (Or.inl ⟨rfl,rfl,rfl⟩)) Od
 refine Y5 ?_
 refine Yy (Zlt 1 3) ?_
 refine Z4 ?_
 refine G.condDT rfl Od ?_
 refine Z7 (G.seq (G.block (Y5 ?_)))
 refine Z4 ?_
 refine Zg 0 [y_0,y_1,y_2,y_3,r_4,y_5,y_6,y_7,y_8,y_9,y_10,r_11,y_12,y_13,y_14,y_15] ?_
 refine Ypa ?_
 refine Ypy (Zq 2 (ZmulNh 1 2) Od) ?_
 refine Ypy (Zx (so+(k+2)) 2 se_22) ?_
 refine Ypr (Zkc 2 (k+2) ag_5 rfl (nats_get Oy)) ?_
 refine Ypy (ZcvNh (xs.getD (k+2) 0) un_5 un_3) ?_
 refine Ypy (Zq 2 (ZmulNh 1 2) Od) ?_
 refine Ypy (Zq 3 (ZaddNh 2 1) Od) ?_
 refine Ypy (Zx (so+(k+3)) 3 se_22) ?_
 refine Ypr (Zkc 2 (k+3) ag_5 rfl (nats_get Oy)) ?_
 refine Ypy (ZcvNh (xs.getD (k+3) 0) un_5 un_3) ?_
 refine Ypy (ZshlNh (xs.getD (k+3) 0) 8) ?_
 refine Ypy (Zq ln1 (ZorNh (xs.getD (k+2) 0) ((xs.getD (k+3) 0)*2^8)) (jt hj1)) ?_
 refine GP.nil (GQ.thenN (Y6 ?_))
 refine Yy (ZaddNh st1 ln1) ?_
 refine Yy (Zlen un_22) ?_
 refine Yy (Zge (st1+ln1) len) ?_
 refine Zn ?_
 refine Zc (fun h3=>?_) (fun h3=>?_)
 exfalso;omega
 refine Z7 (G.seq ?_)
 refine Zg 256 [y_0,y_1,y_2,y_3,y_4,y_5,y_6,y_7,e_8,y_9] ?_
 refine Ypa ?_
 refine Ypy (Zxa 4 1 ae_151) ?_
 refine Ypy (ZaddNh st1 ln1) ?_
 refine Ypy (y_congr (y_slLH (q':=so+(k+st1)) (lo:=st1) (hi:=st1+ln1) rfl rfl rfl rfl se_22 Om Om) (slice_eq (a:=st1+ln1-st1) (a':=ln1) (b:=cap-st1) (b':=cap-st1) Om Om)) ?_
 refine Zpcc [1] [6] (c_init_Bytes bi so shi xs (k+st1) ln1 (cap-st1) Om Om Om Oa Om Oa b1 4 none _ _ _ _) rfl ?_
 refine Ypa ?_
 refine GP.nil (GQ.thenN (Y6 ?_))
 refine Yy (y_neNilNil rfl rfl un_52) ?_
 refine Zn (G.condF rfl (Z7 (YG ?_)))
 refine Yy (Zq st2 (ZaddNh st1 ln1)) ?_
 refine GL.nil (GQ.blockN (GQ.thenN (YG ?_)))
 refine Yy (Zq 2 (ZaddNh 1 1) Od) ?_
 refine GL.nil ?_
 refine GQ.pick [1,0,0,0,0] rfl ?_
 exact Zb (Or.inr (Or.inr (Or.inl ⟨rfl,rfl,rfl⟩))) Od
 refine Y5 ?_
 refine Yy (Zlt 2 3) ?_
 refine Z4 ?_
 refine G.condDT rfl Od ?_
 refine Z7 (G.seq (G.block (Y5 ?_)))
 refine Z4 ?_
 refine Zg 0 [y_0,y_1,y_2,y_3,r_4,y_5,y_6,y_7,y_8,y_9,y_10,r_11,y_12,y_13,y_14,y_15] ?_
 refine Ypa ?_
 refine Ypy (Zq 4 (ZmulNh 2 2) Od) ?_
 refine Ypy (Zx (so+(k+4)) 4 se_22) ?_
 refine Ypr (Zkc 2 (k+4) ag_5 rfl (nats_get Oy)) ?_
 refine Ypy (ZcvNh (xs.getD (k+4) 0) un_5 un_3) ?_
 refine Ypy (Zq 4 (ZmulNh 2 2) Od) ?_
 refine Ypy (Zq 5 (ZaddNh 4 1) Od) ?_
 refine Ypy (Zx (so+(k+5)) 5 se_22) ?_
 refine Ypr (Zkc 2 (k+5) ag_5 rfl (nats_get Oy)) ?_
 refine Ypy (ZcvNh (xs.getD (k+5) 0) un_5 un_3) ?_
 refine Ypy (ZshlNh (xs.getD (k+5) 0) 8) ?_
 refine Ypy (Zq ln2 (ZorNh (xs.getD (k+4) 0) ((xs.getD (k+5) 0)*2^8)) (jt hj2)) ?_
 refine GP.nil (GQ.thenN (Y6 ?_))
 refine Yy (ZaddNh st2 ln2) ?_
 refine Yy (Zlen un_22) ?_
 refine Yy (Zge (st2+ln2) len) ?_
 refine Zn ?_
 refine Zc (fun h4=>?_) (fun h4=>?_)
 exfalso;omega
 refine Z7 (G.seq ?_)
 refine Zg 256 [y_0,y_1,y_2,y_3,y_4,y_5,y_6,y_7,e_8,y_9] ?_
 refine Ypa ?_
 refine Ypy (Zxa 8 2 ae_151) ?_
 refine Ypy (ZaddNh st2 ln2) ?_
 refine Ypy (y_congr (y_slLH (q':=so+(k+st2)) (lo:=st2) (hi:=st2+ln2) rfl rfl rfl rfl se_22 Om Om) (slice_eq (a:=st2+ln2-st2) (a':=ln2) (b:=cap-st2) (b':=cap-st2) Om Om)) ?_
 refine Zpcc [2] [6] (c_init_Bytes bi so shi xs (k+st2) ln2 (cap-st2) Om Om Om Oa Om Oa b1 8 none _ _ _ _) rfl ?_
 refine Ypa ?_
 refine GP.nil (GQ.thenN (Y6 ?_))
 refine Yy (y_neNilNil rfl rfl un_52) ?_
 refine Zn (G.condF rfl (Z7 (YG ?_)))
 refine Yy (Zq st3 (ZaddNh st2 ln2)) ?_
 refine GL.nil (GQ.blockN (GQ.thenN (YG ?_)))
 refine Yy (Zq 3 (ZaddNh 2 1) Od) ?_
 refine GL.nil ?_
 refine GQ.pick [1,1,0,0,0] rfl ?_
 exact Zb (Or.inr (Or.inr (Or.inr (⟨rfl,rfl,rfl⟩)))) Od
 refine Y5 ?_
 refine Yy (Zlt 3 3) ?_
 refine Z4 ?_
 refine G.condDF rfl Od ?_
 refine G.exit (GQ.thenE (GQ.thenE (GQ.blockE (GQ.thenN (Y5 ?_)))))
 refine Yy (Zxa 12 3 ae_151) ?_
 refine Yy (y_congr (y_slL (q':=so+(k+st3)) (lo:=st3) rfl rfl rfl se_22 Om Om) (slice_eq (a:=len-st3) (a':=ln3) (b:=cap-st3) (b':=cap-st3) Om Om)) ?_
 refine Zcc [3] [6] (c_init_Bytes bi so shi xs (k+st3) ln3 (cap-st3) Om Om Om Oa Om Oa b1 12 none _ _ _ _) rfl ?_
 refine Ya ?_
 refine Y3 ?_
 refine Yy (y_neNilNil rfl rfl un_52) ?_
 refine Zn (G.condF rfl (Y8 ?_))
 refine Yy (y_cap rfl rfl rfl rfl un_22) ?_
 refine Y2 ?_
 refine Yy (y_slH (hi:=text.length) rfl rfl rfl se_22 Om) ?_
 refine Y2 ?_
 refine Y2 ?_
 refine Yy (ZaddNh text.length 3) ?_
 refine Yy (Zq ev (ZquoNh (text.length+3) 4)) ?_
 refine Y2 ?_
 refine Yy (Zf fo_119_0) ?_
 refine Yy (Zf fo_83_0) ?_
 refine Yr (Zk 0 0 ag_81) ?_
 refine Yy (y_slH (hi:=256) rfl rfl rfl se_81 Om) ?_
 refine Y2 ?_
 refine Zcp [] [5] (c_buffer be eo she _ _ _) rfl ?_
 rintro _ _ ⟨b5,rfl,rfl⟩
 refine Ya ?_
 refine Z4 ?_
 refine G.cut2 (o':=256) (xs:=(nats .u8 (List.replicate 256 0))) (ys:=(nats .u8 (List.replicate 768 0))) 0 rfl (nats_rep_add .u8 256 768 0) rfl ?_
 refine G.cut2 (o':=512) (xs:=(nats .u8 (List.replicate 256 0))) (ys:=(nats .u8 (List.replicate 512 0))) 1 rfl (nats_rep_add .u8 256 512 0) rfl ?_
 refine G.cut2 (o':=768) (xs:=(nats .u8 (List.replicate 256 0))) (ys:=(nats .u8 (List.replicate 256 0))) 1 rfl (nats_rep_add .u8 256 256 0) rfl ?_
 refine YG ?_
 refine Y2 ?_
 refine Z4 (G.block ?_)
 refine G.pick [5,5,5,4,3,2,0,0,0] rfl ?_
 refine Zo (fun mz ρ l=>∃s0 s1 s2 s3:BR,∃y0 y1 y2 y3 ds:List Nat,∃n pn ob:Nat,mz=ev-n∧(RdT xs (k+6) ln0 cd S s0 (sub text (ev*0+n) (ev-n)))∧(RdT xs (k+st1) ln1 cd S s1 (sub text (ev*1+n) (ev-n)))∧(RdT xs (k+st2) ln2 cd S s2 (sub text (ev*2+n) (ev-n)))∧(RdT xs (k+st3) ln3 cd S s3 (sub text (ev*3+n) (m3-n)))∧(y0.length=256∧Row y0 text (ev*0+pn) ob)∧(y1.length=256∧Row y1 text (ev*1+pn) ob)∧(y2.length=256∧Row y2 text (ev*2+pn) ob)∧(y3.length=256∧Row y3 text (ev*3+pn) ob)∧(Got ds text (ev*0) pn)∧(Got ds text (ev*1) pn)∧(Got ds text (ev*2) pn)∧(Got ds text (ev*3) pn)∧(ds.length=text.length)∧(n=pn+ob∧n≤m3∧ob<256∧ob%4=0)∧ρ=[(0,Vp be eo),(1,Vs bd 0 text.length text.length),(8,Vp b1 0),(14,Vh text.length),(15,Vs bd pn (text.length-pn) (text.length-pn)),(16,Vh ev),(17,Vs bt to 256 tcap),(18,Vp b5 0),(19,Va ob),(20,Vh (4*pn)),(6,.slice none 0 0),(7,Value.nilIface)]∧l=[⟨b1,0,[Vs bi (so+(k+6)) ln0 (cap-6),Vd s0.off,Vd s0.val,Va s0.rd],none⟩,⟨b1,4,[Vs bi (so+(k+st1)) ln1 (cap-st1),Vd s1.off,Vd s1.val,Va s1.rd],none⟩,⟨b1,8,[Vs bi (so+(k+st2)) ln2 (cap-st2),Vd s2.off,Vd s2.val,Va s2.rd],none⟩,⟨b1,12,[Vs bi (so+(k+st3)) ln3 (cap-st3),Vd s3.off,Vd s3.val,Va s3.rd],none⟩,⟨b5,0,(nats .u8 y0),none⟩,⟨b5,256,(nats .u8 y1),none⟩,⟨b5,512,(nats .u8 y2),none⟩,⟨b5,768,(nats .u8 y3),none⟩,⟨bd,0,(nats .u8 ds),none⟩]) ⟨(BR.init 4 xs (k+6) ln0),(BR.init 4 xs (k+st1) ln1),(BR.init 4 xs (k+st2) ln2),(BR.init 4 xs (k+st3) ln3),(List.replicate 256 0),(List.replicate 256 0),(List.replicate 256 0),(List.replicate 256 0),zs,0,0,0,rfl,hI0,hI1,hI2,hI3,⟨Oi,Row.zero⟩,⟨Oi,Row.zero⟩,⟨Oi,Row.zero⟩,⟨Oi,Row.zero⟩,Got.zero,Got.zero,Got.zero,Got.zero,hzs,⟨rfl,Nat.zero_le _,Od,rfl⟩,rfl,rfl⟩ ?_ (hs:=rfl)
 rintro _ _ _ ⟨s0,s1,s2,s3,y0,y1,y2,y3,ds,n,pn,ob,rfl,hR0,hR1,hR2,hR3,hy0,hy1,hy2,hy3,hG0,hG1,hG2,hG3,hds,hn,rfl,rfl⟩
 have hk0:=hR0.pos.ok
 have hv0:=hk0.val
 have hl0:=hR0.left
 have hq0:=hR0.leS hT hL8 Om
 have hyl0:=hy0.1
 have hk1:=hR1.pos.ok
 have hv1:=hk1.val
 have hl1:=hR1.left
 have hq1:=hR1.leS hT hL8 Om
 have hyl1:=hy1.1
 have hk2:=hR2.pos.ok
 have hv2:=hk2.val
 have hl2:=hR2.left
 have hq2:=hR2.leS hT hL8 Om
 have hyl2:=hy2.1
 have hk3:=hR3.pos.ok
 have hv3:=hk3.val
 have hl3:=hR3.left
 have hq3:=hR3.leS hT hL8 Om
 have hyl3:=hy3.1
 refine G.block (G.seq (G.seq ?_))
 refine G.meetK (fun ρ l=>∃w:Bool,(w=false→4≤s0.off∧4≤s1.off∧4≤s2.off∧4≤s3.off)∧ρ=[(0,Vp be eo),(1,Vs bd 0 text.length text.length),(8,Vp b1 0),(14,Vh text.length),(15,Vs bd pn (text.length-pn) (text.length-pn)),(16,Vh ev),(17,Vs bt to 256 tcap),(18,Vp b5 0),(19,Va ob),(20,Vh (4*pn)),(6,.slice none 0 0),(7,Value.nilIface),(127,.bool w)]∧l=[⟨b1,0,[Vs bi (so+(k+6)) ln0 (cap-6),Vd s0.off,Vd s0.val,Va s0.rd],none⟩,⟨b1,4,[Vs bi (so+(k+st1)) ln1 (cap-st1),Vd s1.off,Vd s1.val,Va s1.rd],none⟩,⟨b1,8,[Vs bi (so+(k+st2)) ln2 (cap-st2),Vd s2.off,Vd s2.val,Va s2.rd],none⟩,⟨b1,12,[Vs bi (so+(k+st3)) ln3 (cap-st3),Vd s3.off,Vd s3.val,Va s3.rd],none⟩,⟨b5,0,(nats .u8 y0),none⟩,⟨b5,256,(nats .u8 y1),none⟩,⟨b5,512,(nats .u8 y2),none⟩,⟨b5,768,(nats .u8 y3),none⟩,⟨bd,0,(nats .u8 ds),none⟩]) ?_ ?_
 refine YG ?_
 refine Yy (Zxa 0 0 ae_151) ?_
 refine Yy (Zf fo_150_1) ?_
 refine Yr (Zl 0 1 ag_39) ?_
 refine Zy (Zlt s0.off 4) ?_
 refine Za 1 ?_
 refine GL.split (t:=110) (p:=((s0.off:Nat):Int)<((4:Nat):Int)) rfl (fun h6=>?_) (fun h6=>?_)
 refine Ya ?_
 refine GL.nil ?_
 exact Zm ⟨true,(fun h=>by cases h),rfl,rfl⟩
 refine Yy (Zxa 4 1 ae_151) ?_
 refine Yy (Zf fo_150_1) ?_
 refine Yr (Zl 1 1 ag_39) ?_
 refine Zy (Zlt s1.off 4) ?_
 refine Za 2 ?_
 refine GL.split (t:=116) (p:=((s1.off:Nat):Int)<((4:Nat):Int)) rfl (fun h7=>?_) (fun h7=>?_)
 refine Ya ?_
 refine GL.nil ?_
 exact Zm ⟨true,(fun h=>by cases h),rfl,rfl⟩
 refine Yy (Zxa 8 2 ae_151) ?_
 refine Yy (Zf fo_150_1) ?_
 refine Yr (Zl 2 1 ag_39) ?_
 refine Zy (Zlt s2.off 4) ?_
 refine Za 2 ?_
 refine GL.split (t:=122) (p:=((s2.off:Nat):Int)<((4:Nat):Int)) rfl (fun h8=>?_) (fun h8=>?_)
 refine Ya ?_
 refine GL.nil ?_
 exact Zm ⟨true,(fun h=>by cases h),rfl,rfl⟩
 refine Yy (Zxa 12 3 ae_151) ?_
 refine Yy (Zf fo_150_1) ?_
 refine Yr (Zl 3 1 ag_39) ?_
 refine Yy (Zlt s3.off 4) ?_
 refine GL.nil ?_
 exact Zm ⟨(decide (((s3.off:Nat):Int)<((4:Nat):Int))),(fun h=>by have h9:=of_decide_eq_false h;exact⟨Om,Om,Om,Om⟩),rfl,rfl⟩
 rintro _ _ ⟨w,hw,rfl,rfl⟩
 refine GQ.thenN ?_
 refine G.cond rfl (fun hwc=>?_) (fun hwc=>?_)
 refine G.exit (GQ.thenE (GQ.blockO rfl (GQ.thenE (GQ.blockE (GQ.thenN (Y6 ?_))))))
 refine Yy (Zgt ob 0) ?_
 refine Zn ?_
 refine G.meetK (fun ρ l=>∃d2:List Nat,∃nn:Nat,(Got d2 text (ev*0) n)∧(Got d2 text (ev*1) n)∧(Got d2 text (ev*2) n)∧(Got d2 text (ev*3) n)∧(d2.length=text.length)∧(n=nn)∧ρ=[(0,Vp be eo),(1,Vs bd 0 text.length text.length),(8,Vp b1 0),(14,Vh text.length),(15,Vs bd nn (text.length-nn) (text.length-nn)),(16,Vh ev),(17,Vs bt to 256 tcap),(18,Vp b5 0),(20,Vh (4*nn)),(6,.slice none 0 0),(7,Value.nilIface)]∧l=[⟨b1,0,[Vs bi (so+(k+6)) ln0 (cap-6),Vd s0.off,Vd s0.val,Va s0.rd],none⟩,⟨b1,4,[Vs bi (so+(k+st1)) ln1 (cap-st1),Vd s1.off,Vd s1.val,Va s1.rd],none⟩,⟨b1,8,[Vs bi (so+(k+st2)) ln2 (cap-st2),Vd s2.off,Vd s2.val,Va s2.rd],none⟩,⟨b1,12,[Vs bi (so+(k+st3)) ln3 (cap-st3),Vd s3.off,Vd s3.val,Va s3.rd],none⟩,⟨bd,0,(nats .u8 d2),none⟩]) ?_ ?_
 refine Zc (fun h9=>?_) (fun h9=>?_)
 refine Y5 ?_
 refine Yy (ZcvNh ob un_5 un_3) ?_
 refine Y3 ?_
 refine Yy (Zlen un_22) ?_
 refine Yy (ZmulNh ev 3) ?_
 refine Yy (ZaddNh (ev*3) ob) ?_
 refine Yy (Zlt (text.length-pn) ((ev*3)+ob)) ?_
 refine Zn ?_
 refine Zc (fun h10=>?_) (fun h10=>?_)
 exfalso;omega
 refine Z7 (G.seq ?_)
 have hX0:=Row.take hy0.2 (Nat.le_refl _) Om
 have hX1:=Row.take hy1.2 (Nat.le_refl _) Om
 have hX2:=Row.take hy2.2 (Nat.le_refl _) Om
 have hX3:=Row.take hy3.2 (Nat.le_refl _) Om
 obtain⟨dw0,hdw0⟩:∃z,z=splN ds pn ((y0.drop 0).take ob):=⟨_,rfl⟩
 have hS0:dw0.length=text.length:=by rw[hdw0,splN_length (by have:=(hX0).2;omega)];exact hds
 have hE0_0:Got dw0 text (ev*0) (pn+ob):=hdw0▸Got.more (ds:=ds) (j:=pn) hG0 hX0.1 ⟨Om,hX0.2,Om,Om⟩
 have hE0_1:Got dw0 text (ev*1) pn:=hdw0▸Got.keep (ds:=ds) (j:=pn) hG1 hX0.1 ⟨Om,hX0.2,Om⟩
 have hE0_2:Got dw0 text (ev*2) pn:=hdw0▸Got.keep (ds:=ds) (j:=pn) hG2 hX0.1 ⟨Om,hX0.2,Om⟩
 have hE0_3:Got dw0 text (ev*3) pn:=hdw0▸Got.keep (ds:=ds) (j:=pn) hG3 hX0.1 ⟨Om,hX0.2,Om⟩
 obtain⟨dw1,hdw1⟩:∃z,z=splN dw0 (pn+ev) ((y1.drop 0).take ob):=⟨_,rfl⟩
 have hS1:dw1.length=text.length:=by rw[hdw1,splN_length (by have:=(hX1).2;omega)];exact hS0
 have hE1_0:Got dw1 text (ev*0) (pn+ob):=hdw1▸Got.keep (ds:=dw0) (j:=pn+ev) hE0_0 hX1.1 ⟨Om,hX1.2,Om⟩
 have hE1_1:Got dw1 text (ev*1) (pn+ob):=hdw1▸Got.more (ds:=dw0) (j:=pn+ev) hE0_1 hX1.1 ⟨Om,hX1.2,Om,Om⟩
 have hE1_2:Got dw1 text (ev*2) pn:=hdw1▸Got.keep (ds:=dw0) (j:=pn+ev) hE0_2 hX1.1 ⟨Om,hX1.2,Om⟩
 have hE1_3:Got dw1 text (ev*3) pn:=hdw1▸Got.keep (ds:=dw0) (j:=pn+ev) hE0_3 hX1.1 ⟨Om,hX1.2,Om⟩
 clear hE0_0 hE0_1 hE0_2 hE0_3
 obtain⟨dw2,hdw2⟩:∃z,z=splN dw1 (pn+(ev*2)) ((y2.drop 0).take ob):=⟨_,rfl⟩
 have hS2:dw2.length=text.length:=by rw[hdw2,splN_length (by have:=(hX2).2;omega)];exact hS1
 have hE2_0:Got dw2 text (ev*0) (pn+ob):=hdw2▸Got.keep (ds:=dw1) (j:=pn+(ev*2)) hE1_0 hX2.1 ⟨Om,hX2.2,Om⟩
 have hE2_1:Got dw2 text (ev*1) (pn+ob):=hdw2▸Got.keep (ds:=dw1) (j:=pn+(ev*2)) hE1_1 hX2.1 ⟨Om,hX2.2,Om⟩
 have hE2_2:Got dw2 text (ev*2) (pn+ob):=hdw2▸Got.more (ds:=dw1) (j:=pn+(ev*2)) hE1_2 hX2.1 ⟨Om,hX2.2,Om,Om⟩
 have hE2_3:Got dw2 text (ev*3) pn:=hdw2▸Got.keep (ds:=dw1) (j:=pn+(ev*2)) hE1_3 hX2.1 ⟨Om,hX2.2,Om⟩
 clear hE1_0 hE1_1 hE1_2 hE1_3
 obtain⟨dw3,hdw3⟩:∃z,z=splN dw2 (pn+(ev*3)) ((y3.drop 0).take ob):=⟨_,rfl⟩
 have hS3:dw3.length=text.length:=by rw[hdw3,splN_length (by have:=(hX3).2;omega)];exact hS2
 have hE3_0:Got dw3 text (ev*0) (pn+ob):=hdw3▸Got.keep (ds:=dw2) (j:=pn+(ev*3)) hE2_0 hX3.1 ⟨Om,hX3.2,Om⟩
 have hE3_1:Got dw3 text (ev*1) (pn+ob):=hdw3▸Got.keep (ds:=dw2) (j:=pn+(ev*3)) hE2_1 hX3.1 ⟨Om,hX3.2,Om⟩
 have hE3_2:Got dw3 text (ev*2) (pn+ob):=hdw3▸Got.keep (ds:=dw2) (j:=pn+(ev*3)) hE2_2 hX3.1 ⟨Om,hX3.2,Om⟩
 have hE3_3:Got dw3 text (ev*3) (pn+ob):=hdw3▸Got.more (ds:=dw2) (j:=pn+(ev*3)) hE2_3 hX3.1 ⟨Om,hX3.2,Om,Om⟩
 clear hE2_0 hE2_1 hE2_2 hE2_3
 have hK0:=(hE3_0).at_eq rfl hn.1.symm
 have hK1:=(hE3_1).at_eq rfl hn.1.symm
 have hK2:=(hE3_2).at_eq rfl hn.1.symm
 have hK3:=(hE3_3).at_eq rfl hn.1.symm
 have hKl:=hS3
 refine YG ?_
 refine Yy (Zxa 0 0 ae_156) ?_
 refine Yy (y_slAH (hi:=ob) rfl rfl rfl ae_89 Om) ?_
 refine Zs (e_cpyN (sg:=⟨bd,0,(nats .u8 ds),none⟩) (xs:=ds) (k:=.u8) (ys:=(y0.drop 0).take ob) 8 pn rfl rfl rfl rfl el_22 rfl (Nat.zero_add _).symm (Src.ofL 4 0 rfl (by first|rfl|(congr 2;omega)) (nats_src _ _ _)) (by have:=(hX0).2;omega) ⟨rfl,by have h8:=(hX0).2;have h9:=hds;omega⟩ rfl rfl) ?_
 rw[←hdw0]
 refine Z4 ?_
 refine Zg 256 [y_0,y_1,y_2,y_3,y_4,y_5,y_6,y_7,e_8] ?_
 refine Ypa ?_
 refine Ypy (y_slL (q':=pn+ev) (lo:=ev) rfl rfl rfl se_22 Om Om) ?_
 refine Ypy (Zxa 256 1 ae_156) ?_
 refine Ypy (y_slAH (hi:=ob) rfl rfl rfl ae_89 Om) ?_
 refine Zps (e_cpyN (sg:=⟨bd,0,(nats .u8 dw0),none⟩) (xs:=dw0) (k:=.u8) (ys:=(y1.drop 0).take ob) 8 (pn+ev) rfl rfl rfl rfl el_22 rfl (Nat.zero_add _).symm (Src.ofL 5 0 rfl (by first|rfl|(congr 2;omega)) (nats_src _ _ _)) (by have:=(hX1).2;omega) ⟨rfl,by have h8:=(hX1).2;have h9:=hS0;omega⟩ rfl rfl) ?_
 rw[←hdw1]
 refine GP.nil (GQ.thenN (G.seq ?_))
 refine Zg 512 [y_0,y_1,y_2,y_3,y_4,y_5,y_6,y_7,y_8,e_9] ?_
 refine Ypa ?_
 refine Ypy (ZmulNh ev 2) ?_
 refine Ypy (y_slL (q':=pn+(ev*2)) (lo:=ev*2) rfl rfl rfl se_22 Om Om) ?_
 refine Ypy (Zxa 512 2 ae_156) ?_
 refine Ypy (y_slAH (hi:=ob) rfl rfl rfl ae_89 Om) ?_
 refine Zps (e_cpyN (sg:=⟨bd,0,(nats .u8 dw1),none⟩) (xs:=dw1) (k:=.u8) (ys:=(y2.drop 0).take ob) 8 (pn+(ev*2)) rfl rfl rfl rfl el_22 rfl (Nat.zero_add _).symm (Src.ofL 6 0 rfl (by first|rfl|(congr 2;omega)) (nats_src _ _ _)) (by have:=(hX2).2;omega) ⟨rfl,by have h8:=(hX2).2;have h9:=hS1;omega⟩ rfl rfl) ?_
 rw[←hdw2]
 refine GP.nil (GQ.thenN (G.seq ?_))
 refine Zg 512 [y_0,y_1,y_2,y_3,y_4,y_5,y_6,y_7,y_8,e_9] ?_
 refine Ypa ?_
 refine Ypy (ZmulNh ev 3) ?_
 refine Ypy (y_slL (q':=pn+(ev*3)) (lo:=ev*3) rfl rfl rfl se_22 Om Om) ?_
 refine Ypy (Zxa 768 3 ae_156) ?_
 refine Ypy (y_slAH (hi:=ob) rfl rfl rfl ae_89 Om) ?_
 refine Zps (e_cpyN (sg:=⟨bd,0,(nats .u8 dw2),none⟩) (xs:=dw2) (k:=.u8) (ys:=(y3.drop 0).take ob) 8 (pn+(ev*3)) rfl rfl rfl rfl el_22 rfl (Nat.zero_add _).symm (Src.ofL 7 0 rfl (by first|rfl|(congr 2;omega)) (nats_src _ _ _)) (by have:=(hX3).2;omega) ⟨rfl,by have h8:=(hX3).2;have h9:=hS2;omega⟩ rfl rfl) ?_
 rw[←hdw3]
 refine GP.nil (GQ.thenN (Y5 ?_))
 refine Yy (ZcvNh ob un_5 un_3) ?_
 refine Yy (ZmulNh ob 4) ?_
 refine Yy (Zq (4*n) (ZaddNh (4*pn) (ob*4))) ?_
 refine Y1 ?_
 refine Yy (y_congr (y_slL (q':=n) (lo:=ob) rfl rfl rfl se_22 Om Om) (slice_eq (a:=text.length-pn-ob) (a':=text.length-n) (b:=text.length-pn-ob) (b':=text.length-n) Om Om)) ?_
 refine GL.nil ?_
 refine GQ.pick [0,0,0,0,4] rfl ?_
 exact Zm ⟨_,n,hK0,hK1,hK2,hK3,hKl,rfl,rfl,rfl⟩ (hs:=rfl)
 refine G.skip ?_
 refine GQ.pick [0,0,0,0,4] rfl ?_
 exact Zm ⟨ds,pn,(hG0.at_eq rfl Om),(hG1.at_eq rfl Om),(hG2.at_eq rfl Om),(hG3.at_eq rfl Om),hds,Om,rfl,rfl⟩
 rintro _ _ ⟨d2,nn,hF0,hF1,hF2,hF3,hd2,hnn,rfl,rfl⟩
 subst hnn
 try clear hk0
 try clear hk1
 try clear hk2
 try clear hk3
 try clear hv0
 try clear hv1
 try clear hv2
 try clear hv3
 try clear hl0
 try clear hl1
 try clear hl2
 try clear hl3
 try clear hq0
 try clear hq1
 try clear hq2
 try clear hq3
 try clear hyl0
 try clear hyl1
 try clear hyl2
 try clear hyl3
 try clear hy0
 try clear hy1
 try clear hy2
 try clear hy3
 try clear hG0
 try clear hG1
 try clear hG2
 try clear hG3
 try clear hj0
 try clear hj1
 try clear hj2
 try clear hb0
 try clear hb1
 try clear hb2
 try clear hb3
 try clear hw
 try clear hds
 try clear hx0
 try clear hx1
 try clear hx2
 try clear hx3
 try clear hx4
 try clear hx5
 refine GQ.thenN (Y5 ?_)
 refine Yy (ZquoNh (4*n) 4) ?_
 refine Yy (Zq (ev-n) (ZsubNh ev ((4*n)/4))) ?_
 refine Y3 ?_
 refine Zn (G.block ?_)
 refine Zo (fun mz ρ l=>(mz=4∧(Got d2 text (ev*0) n)∧(Got d2 text (ev*1) n)∧(Got d2 text (ev*2) n)∧(Got d2 text (ev*3) n)∧(d2.length=text.length)∧ρ=[(0,Vp be eo),(1,Vs bd 0 text.length text.length),(8,Vp b1 0),(14,Vh text.length),(15,Vs bd n (text.length-n) (text.length-n)),(16,Vh ev),(17,Vs bt to 256 tcap),(18,Vp b5 0),(20,Vh (4*n)),(6,.slice none 0 0),(7,Value.nilIface),(856,Vh 0),(30,Vh (ev-n))]∧l=[⟨b1,0,[Vs bi (so+(k+6)) ln0 (cap-6),Vd s0.off,Vd s0.val,Va s0.rd],none⟩,⟨b1,4,[Vs bi (so+(k+st1)) ln1 (cap-st1),Vd s1.off,Vd s1.val,Va s1.rd],none⟩,⟨b1,8,[Vs bi (so+(k+st2)) ln2 (cap-st2),Vd s2.off,Vd s2.val,Va s2.rd],none⟩,⟨b1,12,[Vs bi (so+(k+st3)) ln3 (cap-st3),Vd s3.off,Vd s3.val,Va s3.rd],none⟩,⟨bd,0,(nats .u8 d2),none⟩])∨(∃d3:List Nat,∃v0:BR,mz=3∧(Got d3 text (ev*0) ev)∧(Got d3 text (ev*1) n)∧(Got d3 text (ev*2) n)∧(Got d3 text (ev*3) n)∧(d3.length=text.length)∧ρ=[(0,Vp be eo),(1,Vs bd 0 text.length text.length),(8,Vp b1 0),(14,Vh text.length),(15,Vs bd n (text.length-n) (text.length-n)),(16,Vh ev),(17,Vs bt to 256 tcap),(18,Vp b5 0),(20,Vh (4*n+(ev-n))),(6,.slice none 0 0),(7,Value.nilIface),(856,Vh 1),(30,Vh (ev-n))]∧l=[⟨b1,0,[.slice none 0 0,Vd v0.off,Vd v0.val,Va v0.rd],none⟩,⟨b1,4,[Vs bi (so+(k+st1)) ln1 (cap-st1),Vd s1.off,Vd s1.val,Va s1.rd],none⟩,⟨b1,8,[Vs bi (so+(k+st2)) ln2 (cap-st2),Vd s2.off,Vd s2.val,Va s2.rd],none⟩,⟨b1,12,[Vs bi (so+(k+st3)) ln3 (cap-st3),Vd s3.off,Vd s3.val,Va s3.rd],none⟩,⟨bd,0,(nats .u8 d3),none⟩])∨(∃d3:List Nat,∃v0 v1:BR,mz=2∧(Got d3 text (ev*0) ev)∧(Got d3 text (ev*1) ev)∧(Got d3 text (ev*2) n)∧(Got d3 text (ev*3) n)∧(d3.length=text.length)∧ρ=[(0,Vp be eo),(1,Vs bd 0 text.length text.length),(8,Vp b1 0),(14,Vh text.length),(15,Vs bd n (text.length-n) (text.length-n)),(16,Vh ev),(17,Vs bt to 256 tcap),(18,Vp b5 0),(20,Vh (4*n+(ev-n)+(ev-n))),(6,.slice none 0 0),(7,Value.nilIface),(856,Vh 2),(30,Vh (ev-n))]∧l=[⟨b1,0,[.slice none 0 0,Vd v0.off,Vd v0.val,Va v0.rd],none⟩,⟨b1,4,[.slice none 0 0,Vd v1.off,Vd v1.val,Va v1.rd],none⟩,⟨b1,8,[Vs bi (so+(k+st2)) ln2 (cap-st2),Vd s2.off,Vd s2.val,Va s2.rd],none⟩,⟨b1,12,[Vs bi (so+(k+st3)) ln3 (cap-st3),Vd s3.off,Vd s3.val,Va s3.rd],none⟩,⟨bd,0,(nats .u8 d3),none⟩])∨(∃d3:List Nat,∃v0 v1 v2:BR,mz=1∧(Got d3 text (ev*0) ev)∧(Got d3 text (ev*1) ev)∧(Got d3 text (ev*2) ev)∧(Got d3 text (ev*3) n)∧(d3.length=text.length)∧ρ=[(0,Vp be eo),(1,Vs bd 0 text.length text.length),(8,Vp b1 0),(14,Vh text.length),(15,Vs bd n (text.length-n) (text.length-n)),(16,Vh ev),(17,Vs bt to 256 tcap),(18,Vp b5 0),(20,Vh (4*n+(ev-n)+(ev-n)+(ev-n))),(6,.slice none 0 0),(7,Value.nilIface),(856,Vh 3),(30,Vh (ev-n))]∧l=[⟨b1,0,[.slice none 0 0,Vd v0.off,Vd v0.val,Va v0.rd],none⟩,⟨b1,4,[.slice none 0 0,Vd v1.off,Vd v1.val,Va v1.rd],none⟩,⟨b1,8,[.slice none 0 0,Vd v2.off,Vd v2.val,Va v2.rd],none⟩,⟨b1,12,[Vs bi (so+(k+st3)) ln3 (cap-st3),Vd s3.off,Vd s3.val,Va s3.rd],none⟩,⟨bd,0,(nats .u8 d3),none⟩])∨(∃d3:List Nat,∃v0 v1 v2 v3:BR,mz=0∧(Got d3 text (ev*0) ev)∧(Got d3 text (ev*1) ev)∧(Got d3 text (ev*2) ev)∧(Got d3 text (ev*3) m3)∧(d3.length=text.length)∧ρ=[(0,Vp be eo),(1,Vs bd 0 text.length text.length),(8,Vp b1 0),(14,Vh text.length),(15,Vs bd n (text.length-n) (text.length-n)),(16,Vh ev),(17,Vs bt to 256 tcap),(18,Vp b5 0),(20,Vh text.length),(6,.slice none 0 0),(7,Value.nilIface),(856,Vh 4),(30,Vh (ev-n))]∧l=[⟨b1,0,[.slice none 0 0,Vd v0.off,Vd v0.val,Va v0.rd],none⟩,⟨b1,4,[.slice none 0 0,Vd v1.off,Vd v1.val,Va v1.rd],none⟩,⟨b1,8,[.slice none 0 0,Vd v2.off,Vd v2.val,Va v2.rd],none⟩,⟨b1,12,[.slice none 0 0,Vd v3.off,Vd v3.val,Va v3.rd],none⟩,⟨bd,0,(nats .u8 d3),none⟩])) (Or.inl ⟨rfl,hF0,hF1,hF2,hF3,hd2,rfl,rfl⟩) ?_
 rintro _ _ _ (⟨rfl,hH0,hH1,hH2,hH3,hd3,rfl,rfl⟩|⟨d3,v0,rfl,hH0,hH1,hH2,hH3,hd3,rfl,rfl⟩|⟨d3,v0,v1,rfl,hH0,hH1,hH2,hH3,hd3,rfl,rfl⟩|⟨d3,v0,v1,v2,rfl,hH0,hH1,hH2,hH3,hd3,rfl,rfl⟩|⟨d3,v0,v1,v2,v3,rfl,hH0,hH1,hH2,hH3,hd3,rfl,rfl⟩)
 refine Y5 ?_
 refine Yy (Zlt 0 4) ?_
 refine Z4 ?_
 refine G.condDT rfl Od ?_
 refine Z7 (G.seq (G.block (Y5 ?_)))
 refine Y2 ?_
 refine Yy (ZmulNh ev 0) ?_
 refine Y2 ?_
 refine Yy (ZaddNh (ev*0) (ev-n)) ?_
 refine Yy (Zlen un_22) ?_
 refine Yy (y_congr (y_min (X:=(((ev*0)+(ev-n):Nat):Int)) (Y:=((text.length-n:Nat):Int)) rfl rfl rfl) (congrArg (Value.int .i64) (show min ((((ev*0)+(ev-n):Nat):Int)) (((text.length-n:Nat):Int))=((ev*0+(ev-n):Nat):Int) from by omega))) ?_
 refine Y2 ?_
 refine Yy (Zxa 0 0 ae_151) ?_
 refine Y2 ?_
 refine Zcc [0] [] (k_rem_Bytes (Vs bi (so+(k+6)) ln0 (cap-6)) b1 0 none s0 hR0 Om) rfl ?_
 refine Ya ?_
 refine Z4 (G.block ?_)
 refine Zo (fun mz ρ l=>∃s7:BR,∃ds7:List Nat,∃e:Nat,mz=ev-n-e∧(RdT xs (k+6) ln0 cd S s7 (sub text (ev*0+n+e) (ev-n-e)))∧(n+e≤ev)∧(Got ds7 text (ev*0) (n+e))∧(Got ds7 text (ev*1) n)∧(Got ds7 text (ev*2) n)∧(Got ds7 text (ev*3) n)∧(ds7.length=text.length)∧ρ=[(0,Vp be eo),(1,Vs bd 0 text.length text.length),(8,Vp b1 0),(14,Vh text.length),(15,Vs bd n (text.length-n) (text.length-n)),(16,Vh ev),(17,Vs bt to 256 tcap),(18,Vp b5 0),(20,Vh (4*n)),(6,.slice none 0 0),(7,Value.nilIface),(30,Vh (ev-n)),(31,Vh 0),(856,Vh 0),(32,Vh ((ev*0)+e)),(33,Vh (ev*0+(ev-n))),(34,Vp b1 0),(35,Vd (tN cd (sub text (ev*0+n+e) (ev-n-e))))]∧l=[⟨b1,0,[Vs bi (so+(k+6)) ln0 (cap-6),Vd s7.off,Vd s7.val,Va s7.rd],none⟩,⟨b1,4,[Vs bi (so+(k+st1)) ln1 (cap-st1),Vd s1.off,Vd s1.val,Va s1.rd],none⟩,⟨b1,8,[Vs bi (so+(k+st2)) ln2 (cap-st2),Vd s2.off,Vd s2.val,Va s2.rd],none⟩,⟨b1,12,[Vs bi (so+(k+st3)) ln3 (cap-st3),Vd s3.off,Vd s3.val,Va s3.rd],none⟩,⟨bd,0,(nats .u8 ds7),none⟩]) ⟨s0,d2,0,rfl,hR0,Om,hH0,hH1,hH2,hH3,hd3,rfl,rfl⟩ ?_
 rintro _ _ _ ⟨s7,ds7,e,rfl,hR7,he7,hB0,hB1,hB2,hB3,hd7,rfl,rfl⟩
 have hk7:=hR7.pos.ok
 have hv7:=hk7.val
 have hl7:=hR7.left
 have hq7:=hR7.leS hT hL8 Om
 refine Y6 ?_
 refine Yy (Zgt (tN cd (sub text (ev*0+n+e) (ev-n-e))) 0) ?_
 refine Zn ?_
 refine Zc (fun h11=>?_) (fun h11=>?_)
 refine Z7 (G.block (Y6 ?_))
 refine Zcc [0] [] (c_finished_Bytes (Vs bi (so+(k+6)) ln0 (cap-6)) _ b1 0 none s7 Oa Om Om) rfl ?_
 refine Zn (G.condF rfl (Z7 (Y6 ?_)))
 refine Yy (Zf fo_150_3) ?_
 refine Yr (Zl 0 3 ag_5) ?_
 refine Yy (Zge s7.rd 56) ?_
 refine Zn ?_
 refine G.meetK (fun ρ l=>∃s8:BR,(RdT xs (k+6) ln0 cd S s8 (sub text (ev*0+n+e) (ev-n-e)))∧(s8.rd+L≤64∨s8.off=0)∧ρ=[(0,Vp be eo),(1,Vs bd 0 text.length text.length),(8,Vp b1 0),(14,Vh text.length),(15,Vs bd n (text.length-n) (text.length-n)),(16,Vh ev),(17,Vs bt to 256 tcap),(18,Vp b5 0),(20,Vh (4*n)),(6,.slice none 0 0),(7,Value.nilIface),(30,Vh (ev-n)),(31,Vh 0),(856,Vh 0),(32,Vh ((ev*0)+e)),(33,Vh (ev*0+(ev-n))),(34,Vp b1 0),(35,Vd (tN cd (sub text (ev*0+n+e) (ev-n-e))))]∧l=[⟨b1,0,[Vs bi (so+(k+6)) ln0 (cap-6),Vd s8.off,Vd s8.val,Va s8.rd],none⟩,⟨b1,4,[Vs bi (so+(k+st1)) ln1 (cap-st1),Vd s1.off,Vd s1.val,Va s1.rd],none⟩,⟨b1,8,[Vs bi (so+(k+st2)) ln2 (cap-st2),Vd s2.off,Vd s2.val,Va s2.rd],none⟩,⟨b1,12,[Vs bi (so+(k+st3)) ln3 (cap-st3),Vd s3.off,Vd s3.val,Va s3.rd],none⟩,⟨bd,0,(nats .u8 ds7),none⟩]) ?_ ?_
 refine Zc (fun h12=>?_) (fun h12=>?_)
 refine Y5 ?_
 refine Yy (Zf fo_150_1) ?_
 refine Yr (Zl 0 1 ag_39) ?_
 refine Yy (Zge s7.off 4) ?_
 refine Zn ?_
 refine Zc (fun h13=>?_) (fun h13=>?_)
 refine G.seq ?_
 refine Zg 0 [y_0,y_1,y_2,r_3,y_4,y_5,y_6,r_7,y_8,y_9,y_10] ?_
 refine Ypa ?_
 refine Ypy (Zf fo_150_0) ?_
 refine Ypr (Zl 0 0 ag_22) ?_
 refine Ypy (Zf fo_150_1) ?_
 refine Ypr (Zl 0 1 ag_39) ?_
 refine Ypy (ZsubNd s7.off 4) ?_
 refine Ypy (y_slL (q':=so+(k+6+(s7.off-4))) (lo:=s7.off-4) rfl rfl rfl se_22 Om Om) ?_
 refine GP.nil (GQ.thenN (Y5 ?_))
 refine Yy (y_slH (hi:=4) rfl rfl rfl se_22 Om) ?_
 refine Z4 ?_
 have hxa0:=hb.at_ (k+6+(s7.off-4))
 have hxa1:=hb.at_ (k+6+(s7.off-4)+1)
 have hxa2:=hb.at_ (k+6+(s7.off-4)+2)
 have hxa3:=hb.at_ (k+6+(s7.off-4)+3)
 have hle:=le32_lt hb (k+6+(s7.off-4))
 refine Zg 0 [y_0,y_1,r_2,y_3,y_4,y_5,r_6,y_7,y_8,y_9,y_10,y_11,r_12,y_13,y_14,y_15,y_16,y_17,r_18,y_19,y_20,y_21,y_22] ?_
 refine Ypa ?_
 refine Ypy (Zx (so+(k+6+(s7.off-4))) 0 se_22) ?_
 refine Ypr (Zkc 2 (k+6+(s7.off-4)) ag_5 rfl (nats_get Oy)) ?_
 refine Ypy (ZcvNc (xs.getD (k+6+(s7.off-4)) 0) un_5 un_75) ?_
 refine Ypy (Zx (so+(k+6+(s7.off-4)+1)) 1 se_22) ?_
 refine Ypr (Zkc 2 (k+6+(s7.off-4)+1) ag_5 rfl (nats_get Oy)) ?_
 refine Ypy (ZcvNc (xs.getD (k+6+(s7.off-4)+1) 0) un_5 un_75) ?_
 refine Ypy (ZshlWc (xs.getD (k+6+(s7.off-4)+1) 0) 8) ?_
 refine Ypy (ZorNc (xs.getD (k+6+(s7.off-4)) 0) ((xs.getD (k+6+(s7.off-4)+1) 0)*2^8%4294967296)) ?_
 refine Ypy (Zx (so+(k+6+(s7.off-4)+2)) 2 se_22) ?_
 refine Ypr (Zkc 2 (k+6+(s7.off-4)+2) ag_5 rfl (nats_get Oy)) ?_
 refine Ypy (ZcvNc (xs.getD (k+6+(s7.off-4)+2) 0) un_5 un_75) ?_
 refine Ypy (ZshlWc (xs.getD (k+6+(s7.off-4)+2) 0) 16) ?_
 refine Ypy (orN_u32 (m:=(xs.getD (k+6+(s7.off-4)) 0)|||((xs.getD (k+6+(s7.off-4)+1) 0)*2^8%4294967296)) (n:=(xs.getD (k+6+(s7.off-4)+2) 0)*2^16%4294967296) rfl rfl rfl (or_lt32 Om Om) Om) ?_
 refine Ypy (Zx (so+(k+6+(s7.off-4)+3)) 3 se_22) ?_
 refine Ypr (Zkc 2 (k+6+(s7.off-4)+3) ag_5 rfl (nats_get Oy)) ?_
 refine Ypy (ZcvNc (xs.getD (k+6+(s7.off-4)+3) 0) un_5 un_75) ?_
 refine Ypy (ZshlWc (xs.getD (k+6+(s7.off-4)+3) 0) 24) ?_
 refine Ypy (Zq (le32 xs (k+6+(s7.off-4))) (orN_u32 (m:=((xs.getD (k+6+(s7.off-4)) 0)|||((xs.getD (k+6+(s7.off-4)+1) 0)*2^8%4294967296))|||((xs.getD (k+6+(s7.off-4)+2) 0)*2^16%4294967296)) (n:=(xs.getD (k+6+(s7.off-4)+3) 0)*2^24%4294967296) rfl rfl rfl (or_lt32 (or_lt32 Om Om) Om) Om) rfl) ?_
 refine GP.nil (GQ.thenN (G.seq ?_))
 refine Zg 32768 [y_0,y_1,y_2,r_3,y_4,y_5,y_6,y_7,y_8,r_9,y_10,y_11,y_12,y_13,y_14,e_15] ?_
 refine Ypa ?_
 refine Ypy (Zf fo_150_2) ?_
 refine Ypr (Zl 0 2 ag_96) ?_
 refine Ypy (ZcvNd (le32 xs (k+6+(s7.off-4))) un_75 un_96) ?_
 refine Ypy (Zf fo_150_3) ?_
 refine Ypr (Zl 0 3 ag_5) ?_
 refine Ypy (ZsubNa s7.rd 32) ?_
 refine Ypy (ZshlWd (le32 xs (k+6+(s7.off-4))) (s7.rd-32)) ?_
 refine Ypy (ZorNd s7.val ((le32 xs (k+6+(s7.off-4)))*2^(s7.rd-32)%18446744073709551616)) ?_
 refine Ypy (Zf fo_150_2) ?_
 refine Yps (Zst 0 2 sz_96) ?_
 refine GP.nil (GQ.thenN (Y5 ?_))
 refine Yy (Zf fo_150_3) ?_
 refine Yr (Zl 0 3 ag_5) ?_
 refine Yy (ZsubNa s7.rd 32) ?_
 refine Yy (Zf fo_150_3) ?_
 refine Ys (Zst 0 3 sz_5) ?_
 refine Y1 ?_
 refine Yy (Zf fo_150_1) ?_
 refine Yr (Zl 0 1 ag_39) ?_
 refine Yy (ZsubNd s7.off 4) ?_
 refine Yy (Zf fo_150_1) ?_
 refine Ys (Zst 0 1 sz_39) ?_
 refine GL.nil ?_
 obtain⟨s14,hR15,hXs14,hYs14,hzs14⟩:=hR7.load4' hb Om Om rfl
 refine GQ.lists (l':=[⟨b1,0,[Vs bi (so+(k+6)) ln0 (cap-6),Vd s14.off,Vd s14.val,Va s14.rd],none⟩,⟨b1,4,[Vs bi (so+(k+st1)) ln1 (cap-st1),Vd s1.off,Vd s1.val,Va s1.rd],none⟩,⟨b1,8,[Vs bi (so+(k+st2)) ln2 (cap-st2),Vd s2.off,Vd s2.val,Va s2.rd],none⟩,⟨b1,12,[Vs bi (so+(k+st3)) ln3 (cap-st3),Vd s3.off,Vd s3.val,Va s3.rd],none⟩,⟨bd,0,(nats .u8 ds7),none⟩]) (by rw[←hXs14, ←hYs14, ←hzs14];first|done|rfl) ?_
 have hks14:=hR15.pos.ok
 have hls14:=hR15.left
 exact Zm ⟨s14,hR15,Om,rfl,rfl⟩
 refine G.block ?_
 refine Zo (fun mz ρ l=>∃s9:BR,mz=s9.off∧(RdT xs (k+6) ln0 cd S s9 (sub text (ev*0+n+e) (ev-n-e)))∧(s9.off<4∧8*s9.off≤s9.rd)∧ρ=[(0,Vp be eo),(1,Vs bd 0 text.length text.length),(8,Vp b1 0),(14,Vh text.length),(15,Vs bd n (text.length-n) (text.length-n)),(16,Vh ev),(17,Vs bt to 256 tcap),(18,Vp b5 0),(20,Vh (4*n)),(6,.slice none 0 0),(7,Value.nilIface),(30,Vh (ev-n)),(31,Vh 0),(856,Vh 0),(32,Vh ((ev*0)+e)),(33,Vh (ev*0+(ev-n))),(34,Vp b1 0),(35,Vd (tN cd (sub text (ev*0+n+e) (ev-n-e))))]∧l=[⟨b1,0,[Vs bi (so+(k+6)) ln0 (cap-6),Vd s9.off,Vd s9.val,Va s9.rd],none⟩,⟨b1,4,[Vs bi (so+(k+st1)) ln1 (cap-st1),Vd s1.off,Vd s1.val,Va s1.rd],none⟩,⟨b1,8,[Vs bi (so+(k+st2)) ln2 (cap-st2),Vd s2.off,Vd s2.val,Va s2.rd],none⟩,⟨b1,12,[Vs bi (so+(k+st3)) ln3 (cap-st3),Vd s3.off,Vd s3.val,Va s3.rd],none⟩,⟨bd,0,(nats .u8 ds7),none⟩]) ⟨s7,rfl,hR7,⟨Om,Om⟩,rfl,rfl⟩ ?_
 rintro _ _ _ ⟨s9,rfl,hR9,h9,rfl,rfl⟩
 have hk9:=hR9.pos.ok
 have hl9:=hR9.left
 have hv9:=hk9.val
 have hx9:=hb.at_ (k+6+(s9.off-1))
 refine Y6 ?_
 refine Yy (Zf fo_150_1) ?_
 refine Yr (Zl 0 1 ag_39) ?_
 refine Yy (Zgt s9.off 0) ?_
 refine Zn ?_
 refine Zc (fun h16=>?_) (fun h16=>?_)
 refine Z7 (G.block (G.seq ?_))
 refine Zg 33554432 [y_0,y_1,y_2,r_3,y_4,y_5,y_6,r_7,y_8,y_9,y_10,r_11,y_12,y_13,r_14,y_15,y_16,y_17,y_18,r_19,y_20,y_21,y_22,y_23,y_24,e_25] ?_
 refine Ypa ?_
 refine Ypy (Zf fo_150_2) ?_
 refine Ypr (Zl 0 2 ag_96) ?_
 refine Ypy (Zf fo_150_0) ?_
 refine Ypr (Zl 0 0 ag_22) ?_
 refine Ypy (Zf fo_150_1) ?_
 refine Ypr (Zl 0 1 ag_39) ?_
 refine Ypy (ZsubNd s9.off 1) ?_
 refine Ypy (Zx (so+(k+6+(s9.off-1))) (s9.off-1) se_22) ?_
 refine Ypr (Zkc 2 (k+6+(s9.off-1)) ag_5 rfl (nats_get Oy)) ?_
 refine Ypy (ZcvNd (xs.getD (k+6+(s9.off-1)) 0) un_5 un_96) ?_
 refine Ypy (Zf fo_150_3) ?_
 refine Ypr (Zl 0 3 ag_5) ?_
 refine Ypy (ZsubNa s9.rd 8) ?_
 refine Ypy (ZshlWd (xs.getD (k+6+(s9.off-1)) 0) (s9.rd-8)) ?_
 refine Ypy (ZorNd s9.val ((xs.getD (k+6+(s9.off-1)) 0)*2^(s9.rd-8)%18446744073709551616)) ?_
 refine Ypy (Zf fo_150_2) ?_
 refine Yps (Zst 0 2 sz_96) ?_
 refine GP.nil (GQ.thenN (Y5 ?_))
 refine Yy (Zf fo_150_3) ?_
 refine Yr (Zl 0 3 ag_5) ?_
 refine Yy (ZsubNa s9.rd 8) ?_
 refine Yy (Zf fo_150_3) ?_
 refine Ys (Zst 0 3 sz_5) ?_
 refine Y1 ?_
 refine Yy (Zf fo_150_1) ?_
 refine Yr (Zl 0 1 ag_39) ?_
 refine Yy (ZsubNd s9.off 1) ?_
 refine Yy (Zf fo_150_1) ?_
 refine Ys (Zst 0 1 sz_39) ?_
 refine GL.nil (GQ.blockN ?_)
 exact Zb ⟨(s9.load1 xs (k+6)),rfl,hR9.load1 hb Om Om,⟨by simp[BR.load1];omega,by simp[BR.load1];omega⟩,rfl,rfl⟩ (by simp[BR.load1];omega)
 refine G.exit (GQ.thenE (GQ.thenE (GQ.blockE ?_)))
 exact Zm ⟨s9,hR9,Om,rfl,rfl⟩
 refine G.skip ?_
 exact Zm ⟨s7,hR7,Om,rfl,rfl⟩
 rintro _ _ ⟨s8,hR8,h8,rfl,rfl⟩
 have hk8:=hR8.pos.ok
 have hv8:=hk8.val
 have hl8:=hR8.left
 refine GQ.thenN (Y6 ?_)
 refine Yy (Zge ((ev*0)+e) (ev*0+(ev-n))) ?_
 refine Zn ?_
 refine Zc (fun h17=>?_) (fun h17=>?_)
 exfalso;omega
 refine Y8 ?_
 obtain⟨cc0_7,n18,p19,hcc0_7,hpp19,hep19,hvp19,hcp19,hap19,hbp19,hrp19,htp19,hN20⟩:=hR8.getS hT hb Om Om
 refine Zcc [0] [] (k_peekB (Vs bi (so+(k+6)) ln0 (cap-6)) _ b1 0 none s8 Oa L hL hpp19) rfl ?_
 refine Yy (Zx (to+p19) p19 se_81) ?_
 refine Yy (Zf fo_115_0) ?_
 refine Yr (Zkc 1 p19 ag_78 rfl (nats_getE Om hep19)) ?_
 refine Y2 ?_
 refine Yy (Zq n18 (ZcvWa (n18+256*cc0_7) un_78 un_5)) ?_
 refine Y2 ?_
 refine Zcp [0] [] (Con.some' (fun s'=>RdT xs (k+6) ln0 cd S s' (sub text (ev*0+n+e+1) (ev-n-e-1))∧s'.rd=s8.rd+n18∧s'.off=s8.off) (c_advance_Bytes (Vs bi (so+(k+6)) ln0 (cap-6)) _ b1 0 none s8 Oa n18 Om) ⟨hN20,adv_rd Om,rfl⟩) rfl ?_
 rintro _ _ ⟨rfl,s21,⟨hR22,hds21,hos21⟩,rfl⟩
 have hks21:=hR22.pos.ok
 have hls21:=hR22.left
 have hvs21:=hks21.val
 refine Y2 ?_
 refine Yy (ZcvNd n18 un_5 un_39) ?_
 refine Yy (Zq (tN cd (sub text (ev*0+n+e+1) (ev-n-e-1))) (ZsubNd (tN cd (sub text (ev*0+n+e) (ev-n-e))) n18)) ?_
 refine Y2 ?_
 refine Yy (Zq cc0_7 (ZshrNb (n18+256*cc0_7) 8)) ?_
 refine Yy (ZcvNa cc0_7 un_78 un_5) ?_
 refine Yy (Zx (n+((ev*0)+e)) ((ev*0)+e) se_22) ?_
 refine Ys (Zsu 4 (n+((ev*0)+e)) sz_5) ?_
 refine Zn ?_
 have hW0:=Got.put (c:=cc0_7) (p:=n+(ev*0+e)) hB0 Om (by rw[hcc0_7];congr 1;omega) Om
 have hW1:=Got.set (c:=cc0_7) (p:=n+(ev*0+e)) hB1 Om (by rw[hcc0_7];congr 1;omega)
 have hW2:=Got.set (c:=cc0_7) (p:=n+(ev*0+e)) hB2 Om (by rw[hcc0_7];congr 1;omega)
 have hW3:=Got.set (c:=cc0_7) (p:=n+(ev*0+e)) hB3 Om (by rw[hcc0_7];congr 1;omega)
 refine YG ?_
 refine Yy (ZaddNh ((ev*0)+e) 1) ?_
 refine GL.nil (GQ.blockN ?_)
 exact Zb ⟨s21,_,(e+1),rfl,hR22.at_eq Om Om,Om,hW0,hW1,hW2,hW3,by simp[hd7],rfl,rfl⟩ (hs:=rfl)
 refine G.exit (GQ.thenE (GQ.thenE (GQ.blockE (GQ.thenN (Y6 ?_)))))
 refine Yy (Zne ((ev*0)+e) (ev*0+(ev-n))) ?_
 refine Zn ?_
 refine Zc (fun h23=>?_) (fun h23=>?_)
 exfalso;omega
 refine Y8 ?_
 refine Yy (ZmulNh ev 0) ?_
 refine Yy (ZsubNh ((ev*0)+e) (ev*0)) ?_
 refine Yy (Zq (4*n+(ev-n)) (ZaddNh (4*n) (((ev*0)+e)-(ev*0)))) ?_
 refine Z4 ?_
 have h0:s7.off=0:=Om
 have h64:s7.rd=64:=Om
 refine YG ?_
 refine Zcc [0] [] (c_close_Bytes (Vs bi (so+(k+6)) ln0 (cap-6)) _ b1 0 none s7 Oa Oa Oa Om) rfl ?_
 refine Ya ?_
 refine Y2 ?_
 refine Yy (y_neNilNil rfl rfl un_52) ?_
 refine Zn (G.condF rfl (G.skip (GQ.blockN (GQ.thenN (YG ?_)))))
 refine Yy (Zq 1 (ZaddNh 0 1) Od) ?_
 refine GL.nil ?_
 exact Zb (Or.inr (Or.inl ⟨ds7,s7,rfl,(hB0.at_eq rfl Om),hB1,hB2,hB3,hd7,rfl,rfl⟩)) Od
 refine Y5 ?_
 refine Yy (Zlt 1 4) ?_
 refine Z4 ?_
 refine G.condDT rfl Od ?_
 refine Z7 (G.seq (G.block (Y5 ?_)))
 refine Y2 ?_
 refine Yy (ZmulNh ev 1) ?_
 refine Y2 ?_
 refine Yy (ZaddNh (ev*1) (ev-n)) ?_
 refine Yy (Zlen un_22) ?_
 refine Yy (y_congr (y_min (X:=(((ev*1)+(ev-n):Nat):Int)) (Y:=((text.length-n:Nat):Int)) rfl rfl rfl) (congrArg (Value.int .i64) (show min ((((ev*1)+(ev-n):Nat):Int)) (((text.length-n:Nat):Int))=((ev*1+(ev-n):Nat):Int) from by omega))) ?_
 refine Y2 ?_
 refine Yy (Zxa 4 1 ae_151) ?_
 refine Y2 ?_
 refine Zcc [1] [] (k_rem_Bytes (Vs bi (so+(k+st1)) ln1 (cap-st1)) b1 4 none s1 hR1 Om) rfl ?_
 refine Ya ?_
 refine Z4 (G.block ?_)
 refine G.pick [1,0,0,0,0] rfl ?_
 refine Zo (fun mz ρ l=>∃s7:BR,∃ds7:List Nat,∃e:Nat,mz=ev-n-e∧(RdT xs (k+st1) ln1 cd S s7 (sub text (ev*1+n+e) (ev-n-e)))∧(n+e≤ev)∧(Got ds7 text (ev*0) ev)∧(Got ds7 text (ev*1) (n+e))∧(Got ds7 text (ev*2) n)∧(Got ds7 text (ev*3) n)∧(ds7.length=text.length)∧ρ=[(0,Vp be eo),(1,Vs bd 0 text.length text.length),(8,Vp b1 0),(14,Vh text.length),(15,Vs bd n (text.length-n) (text.length-n)),(16,Vh ev),(17,Vs bt to 256 tcap),(18,Vp b5 0),(20,Vh (4*n+(ev-n))),(6,.slice none 0 0),(7,Value.nilIface),(30,Vh (ev-n)),(31,Vh 1),(856,Vh 1),(32,Vh ((ev*1)+e)),(33,Vh (ev*1+(ev-n))),(34,Vp b1 4),(35,Vd (tN cd (sub text (ev*1+n+e) (ev-n-e))))]∧l=[⟨b1,0,[.slice none 0 0,Vd v0.off,Vd v0.val,Va v0.rd],none⟩,⟨b1,4,[Vs bi (so+(k+st1)) ln1 (cap-st1),Vd s7.off,Vd s7.val,Va s7.rd],none⟩,⟨b1,8,[Vs bi (so+(k+st2)) ln2 (cap-st2),Vd s2.off,Vd s2.val,Va s2.rd],none⟩,⟨b1,12,[Vs bi (so+(k+st3)) ln3 (cap-st3),Vd s3.off,Vd s3.val,Va s3.rd],none⟩,⟨bd,0,(nats .u8 ds7),none⟩]) ⟨s1,d3,0,rfl,hR1,Om,hH0,hH1,hH2,hH3,hd3,rfl,rfl⟩ ?_
 rintro _ _ _ ⟨s7,ds7,e,rfl,hR7,he7,hB0,hB1,hB2,hB3,hd7,rfl,rfl⟩
 have hk7:=hR7.pos.ok
 have hv7:=hk7.val
 have hl7:=hR7.left
 have hq7:=hR7.leS hT hL8 Om
 refine Y6 ?_
 refine Yy (Zgt (tN cd (sub text (ev*1+n+e) (ev-n-e))) 0) ?_
 refine Zn ?_
 refine Zc (fun h24=>?_) (fun h24=>?_)
 refine Z7 (G.block (Y6 ?_))
 refine Zcc [1] [] (c_finished_Bytes (Vs bi (so+(k+st1)) ln1 (cap-st1)) _ b1 4 none s7 Oa Om Om) rfl ?_
 refine Zn (G.condF rfl (Z7 (Y6 ?_)))
 refine Yy (Zf fo_150_3) ?_
 refine Yr (Zl 0 3 ag_5) ?_
 refine Yy (Zge s7.rd 56) ?_
 refine Zn ?_
 refine G.meetK (fun ρ l=>∃s8:BR,(RdT xs (k+st1) ln1 cd S s8 (sub text (ev*1+n+e) (ev-n-e)))∧(s8.rd+L≤64∨s8.off=0)∧ρ=[(0,Vp be eo),(1,Vs bd 0 text.length text.length),(8,Vp b1 0),(14,Vh text.length),(15,Vs bd n (text.length-n) (text.length-n)),(16,Vh ev),(17,Vs bt to 256 tcap),(18,Vp b5 0),(20,Vh (4*n+(ev-n))),(6,.slice none 0 0),(7,Value.nilIface),(30,Vh (ev-n)),(31,Vh 1),(856,Vh 1),(32,Vh ((ev*1)+e)),(33,Vh (ev*1+(ev-n))),(34,Vp b1 4),(35,Vd (tN cd (sub text (ev*1+n+e) (ev-n-e))))]∧l=[⟨b1,4,[Vs bi (so+(k+st1)) ln1 (cap-st1),Vd s8.off,Vd s8.val,Va s8.rd],none⟩,⟨b1,0,[.slice none 0 0,Vd v0.off,Vd v0.val,Va v0.rd],none⟩,⟨b1,8,[Vs bi (so+(k+st2)) ln2 (cap-st2),Vd s2.off,Vd s2.val,Va s2.rd],none⟩,⟨b1,12,[Vs bi (so+(k+st3)) ln3 (cap-st3),Vd s3.off,Vd s3.val,Va s3.rd],none⟩,⟨bd,0,(nats .u8 ds7),none⟩]) ?_ ?_
 refine Zc (fun h25=>?_) (fun h25=>?_)
 refine Y5 ?_
 refine Yy (Zf fo_150_1) ?_
 refine Yr (Zl 0 1 ag_39) ?_
 refine Yy (Zge s7.off 4) ?_
 refine Zn ?_
 refine Zc (fun h26=>?_) (fun h26=>?_)
 refine G.seq ?_
 refine Zg 0 [y_0,y_1,y_2,r_3,y_4,y_5,y_6,r_7,y_8,y_9,y_10] ?_
 refine Ypa ?_
 refine Ypy (Zf fo_150_0) ?_
 refine Ypr (Zl 0 0 ag_22) ?_
 refine Ypy (Zf fo_150_1) ?_
 refine Ypr (Zl 0 1 ag_39) ?_
 refine Ypy (ZsubNd s7.off 4) ?_
 refine Ypy (y_slL (q':=so+(k+st1+(s7.off-4))) (lo:=s7.off-4) rfl rfl rfl se_22 Om Om) ?_
 refine GP.nil (GQ.thenN (Y5 ?_))
 refine Yy (y_slH (hi:=4) rfl rfl rfl se_22 Om) ?_
 refine Z4 ?_
 have hxa0:=hb.at_ (k+st1+(s7.off-4))
 have hxa1:=hb.at_ (k+st1+(s7.off-4)+1)
 have hxa2:=hb.at_ (k+st1+(s7.off-4)+2)
 have hxa3:=hb.at_ (k+st1+(s7.off-4)+3)
 have hle:=le32_lt hb (k+st1+(s7.off-4))
 refine Zg 0 [y_0,y_1,r_2,y_3,y_4,y_5,r_6,y_7,y_8,y_9,y_10,y_11,r_12,y_13,y_14,y_15,y_16,y_17,r_18,y_19,y_20,y_21,y_22] ?_
 refine Ypa ?_
 refine Ypy (Zx (so+(k+st1+(s7.off-4))) 0 se_22) ?_
 refine Ypr (Zkc 2 (k+st1+(s7.off-4)) ag_5 rfl (nats_get Oy)) ?_
 refine Ypy (ZcvNc (xs.getD (k+st1+(s7.off-4)) 0) un_5 un_75) ?_
 refine Ypy (Zx (so+(k+st1+(s7.off-4)+1)) 1 se_22) ?_
 refine Ypr (Zkc 2 (k+st1+(s7.off-4)+1) ag_5 rfl (nats_get Oy)) ?_
 refine Ypy (ZcvNc (xs.getD (k+st1+(s7.off-4)+1) 0) un_5 un_75) ?_
 refine Ypy (ZshlWc (xs.getD (k+st1+(s7.off-4)+1) 0) 8) ?_
 refine Ypy (ZorNc (xs.getD (k+st1+(s7.off-4)) 0) ((xs.getD (k+st1+(s7.off-4)+1) 0)*2^8%4294967296)) ?_
 refine Ypy (Zx (so+(k+st1+(s7.off-4)+2)) 2 se_22) ?_
 refine Ypr (Zkc 2 (k+st1+(s7.off-4)+2) ag_5 rfl (nats_get Oy)) ?_
 refine Ypy (ZcvNc (xs.getD (k+st1+(s7.off-4)+2) 0) un_5 un_75) ?_
 refine Ypy (ZshlWc (xs.getD (k+st1+(s7.off-4)+2) 0) 16) ?_
 refine Ypy (orN_u32 (m:=(xs.getD (k+st1+(s7.off-4)) 0)|||((xs.getD (k+st1+(s7.off-4)+1) 0)*2^8%4294967296)) (n:=(xs.getD (k+st1+(s7.off-4)+2) 0)*2^16%4294967296) rfl rfl rfl (or_lt32 Om Om) Om) ?_
 refine Ypy (Zx (so+(k+st1+(s7.off-4)+3)) 3 se_22) ?_
 refine Ypr (Zkc 2 (k+st1+(s7.off-4)+3) ag_5 rfl (nats_get Oy)) ?_
 refine Ypy (ZcvNc (xs.getD (k+st1+(s7.off-4)+3) 0) un_5 un_75) ?_
 refine Ypy (ZshlWc (xs.getD (k+st1+(s7.off-4)+3) 0) 24) ?_
 refine Ypy (Zq (le32 xs (k+st1+(s7.off-4))) (orN_u32 (m:=((xs.getD (k+st1+(s7.off-4)) 0)|||((xs.getD (k+st1+(s7.off-4)+1) 0)*2^8%4294967296))|||((xs.getD (k+st1+(s7.off-4)+2) 0)*2^16%4294967296)) (n:=(xs.getD (k+st1+(s7.off-4)+3) 0)*2^24%4294967296) rfl rfl rfl (or_lt32 (or_lt32 Om Om) Om) Om) rfl) ?_
 refine GP.nil (GQ.thenN (G.seq ?_))
 refine Zg 32768 [y_0,y_1,y_2,r_3,y_4,y_5,y_6,y_7,y_8,r_9,y_10,y_11,y_12,y_13,y_14,e_15] ?_
 refine Ypa ?_
 refine Ypy (Zf fo_150_2) ?_
 refine Ypr (Zl 0 2 ag_96) ?_
 refine Ypy (ZcvNd (le32 xs (k+st1+(s7.off-4))) un_75 un_96) ?_
 refine Ypy (Zf fo_150_3) ?_
 refine Ypr (Zl 0 3 ag_5) ?_
 refine Ypy (ZsubNa s7.rd 32) ?_
 refine Ypy (ZshlWd (le32 xs (k+st1+(s7.off-4))) (s7.rd-32)) ?_
 refine Ypy (ZorNd s7.val ((le32 xs (k+st1+(s7.off-4)))*2^(s7.rd-32)%18446744073709551616)) ?_
 refine Ypy (Zf fo_150_2) ?_
 refine Yps (Zst 0 2 sz_96) ?_
 refine GP.nil (GQ.thenN (Y5 ?_))
 refine Yy (Zf fo_150_3) ?_
 refine Yr (Zl 0 3 ag_5) ?_
 refine Yy (ZsubNa s7.rd 32) ?_
 refine Yy (Zf fo_150_3) ?_
 refine Ys (Zst 0 3 sz_5) ?_
 refine Y1 ?_
 refine Yy (Zf fo_150_1) ?_
 refine Yr (Zl 0 1 ag_39) ?_
 refine Yy (ZsubNd s7.off 4) ?_
 refine Yy (Zf fo_150_1) ?_
 refine Ys (Zst 0 1 sz_39) ?_
 refine GL.nil ?_
 obtain⟨s27,hR28,hXs27,hYs27,hzs27⟩:=hR7.load4' hb Om Om rfl
 refine GQ.lists (l':=[⟨b1,4,[Vs bi (so+(k+st1)) ln1 (cap-st1),Vd s27.off,Vd s27.val,Va s27.rd],none⟩,⟨b1,0,[.slice none 0 0,Vd v0.off,Vd v0.val,Va v0.rd],none⟩,⟨b1,8,[Vs bi (so+(k+st2)) ln2 (cap-st2),Vd s2.off,Vd s2.val,Va s2.rd],none⟩,⟨b1,12,[Vs bi (so+(k+st3)) ln3 (cap-st3),Vd s3.off,Vd s3.val,Va s3.rd],none⟩,⟨bd,0,(nats .u8 ds7),none⟩]) (by rw[←hXs27, ←hYs27, ←hzs27];first|done|rfl) ?_
 have hks27:=hR28.pos.ok
 have hls27:=hR28.left
 exact Zm ⟨s27,hR28,Om,rfl,rfl⟩
 refine G.block ?_
 refine Zo (fun mz ρ l=>∃s9:BR,mz=s9.off∧(RdT xs (k+st1) ln1 cd S s9 (sub text (ev*1+n+e) (ev-n-e)))∧(s9.off<4∧8*s9.off≤s9.rd)∧ρ=[(0,Vp be eo),(1,Vs bd 0 text.length text.length),(8,Vp b1 0),(14,Vh text.length),(15,Vs bd n (text.length-n) (text.length-n)),(16,Vh ev),(17,Vs bt to 256 tcap),(18,Vp b5 0),(20,Vh (4*n+(ev-n))),(6,.slice none 0 0),(7,Value.nilIface),(30,Vh (ev-n)),(31,Vh 1),(856,Vh 1),(32,Vh ((ev*1)+e)),(33,Vh (ev*1+(ev-n))),(34,Vp b1 4),(35,Vd (tN cd (sub text (ev*1+n+e) (ev-n-e))))]∧l=[⟨b1,4,[Vs bi (so+(k+st1)) ln1 (cap-st1),Vd s9.off,Vd s9.val,Va s9.rd],none⟩,⟨b1,0,[.slice none 0 0,Vd v0.off,Vd v0.val,Va v0.rd],none⟩,⟨b1,8,[Vs bi (so+(k+st2)) ln2 (cap-st2),Vd s2.off,Vd s2.val,Va s2.rd],none⟩,⟨b1,12,[Vs bi (so+(k+st3)) ln3 (cap-st3),Vd s3.off,Vd s3.val,Va s3.rd],none⟩,⟨bd,0,(nats .u8 ds7),none⟩]) ⟨s7,rfl,hR7,⟨Om,Om⟩,rfl,rfl⟩ ?_
 rintro _ _ _ ⟨s9,rfl,hR9,h9,rfl,rfl⟩
 have hk9:=hR9.pos.ok
 have hl9:=hR9.left
 have hv9:=hk9.val
 have hx9:=hb.at_ (k+st1+(s9.off-1))
 refine Y6 ?_
 refine Yy (Zf fo_150_1) ?_
 refine Yr (Zl 0 1 ag_39) ?_
 refine Yy (Zgt s9.off 0) ?_
 refine Zn ?_
 refine Zc (fun h29=>?_) (fun h29=>?_)
 refine Z7 (G.block (G.seq ?_))
 refine Zg 33554432 [y_0,y_1,y_2,r_3,y_4,y_5,y_6,r_7,y_8,y_9,y_10,r_11,y_12,y_13,r_14,y_15,y_16,y_17,y_18,r_19,y_20,y_21,y_22,y_23,y_24,e_25] ?_
 refine Ypa ?_
 refine Ypy (Zf fo_150_2) ?_
 refine Ypr (Zl 0 2 ag_96) ?_
 refine Ypy (Zf fo_150_0) ?_
 refine Ypr (Zl 0 0 ag_22) ?_
 refine Ypy (Zf fo_150_1) ?_
 refine Ypr (Zl 0 1 ag_39) ?_
 refine Ypy (ZsubNd s9.off 1) ?_
 refine Ypy (Zx (so+(k+st1+(s9.off-1))) (s9.off-1) se_22) ?_
 refine Ypr (Zkc 2 (k+st1+(s9.off-1)) ag_5 rfl (nats_get Oy)) ?_
 refine Ypy (ZcvNd (xs.getD (k+st1+(s9.off-1)) 0) un_5 un_96) ?_
 refine Ypy (Zf fo_150_3) ?_
 refine Ypr (Zl 0 3 ag_5) ?_
 refine Ypy (ZsubNa s9.rd 8) ?_
 refine Ypy (ZshlWd (xs.getD (k+st1+(s9.off-1)) 0) (s9.rd-8)) ?_
 refine Ypy (ZorNd s9.val ((xs.getD (k+st1+(s9.off-1)) 0)*2^(s9.rd-8)%18446744073709551616)) ?_
 refine Ypy (Zf fo_150_2) ?_
 refine Yps (Zst 0 2 sz_96) ?_
 refine GP.nil (GQ.thenN (Y5 ?_))
 refine Yy (Zf fo_150_3) ?_
 refine Yr (Zl 0 3 ag_5) ?_
 refine Yy (ZsubNa s9.rd 8) ?_
 refine Yy (Zf fo_150_3) ?_
 refine Ys (Zst 0 3 sz_5) ?_
 refine Y1 ?_
 refine Yy (Zf fo_150_1) ?_
 refine Yr (Zl 0 1 ag_39) ?_
 refine Yy (ZsubNd s9.off 1) ?_
 refine Yy (Zf fo_150_1) ?_
 refine Ys (Zst 0 1 sz_39) ?_
 refine GL.nil (GQ.blockN ?_)
 exact Zb ⟨(s9.load1 xs (k+st1)),rfl,hR9.load1 hb Om Om,⟨by simp[BR.load1];omega,by simp[BR.load1];omega⟩,rfl,rfl⟩ (by simp[BR.load1];omega)
 refine G.exit (GQ.thenE (GQ.thenE (GQ.blockE ?_)))
 exact Zm ⟨s9,hR9,Om,rfl,rfl⟩
 refine G.skip ?_
 exact Zm ⟨s7,hR7,Om,rfl,rfl⟩
 rintro _ _ ⟨s8,hR8,h8,rfl,rfl⟩
 have hk8:=hR8.pos.ok
 have hv8:=hk8.val
 have hl8:=hR8.left
 refine GQ.thenN (Y6 ?_)
 refine Yy (Zge ((ev*1)+e) (ev*1+(ev-n))) ?_
 refine Zn ?_
 refine Zc (fun h30=>?_) (fun h30=>?_)
 exfalso;omega
 refine Y8 ?_
 obtain⟨cc1_7,n31,p32,hcc1_7,hpp32,hep32,hvp32,hcp32,hap32,hbp32,hrp32,htp32,hN33⟩:=hR8.getS hT hb Om Om
 refine Zcc [0] [] (k_peekB (Vs bi (so+(k+st1)) ln1 (cap-st1)) _ b1 4 none s8 Oa L hL hpp32) rfl ?_
 refine Yy (Zx (to+p32) p32 se_81) ?_
 refine Yy (Zf fo_115_0) ?_
 refine Yr (Zkc 1 p32 ag_78 rfl (nats_getE Om hep32)) ?_
 refine Y2 ?_
 refine Yy (Zq n31 (ZcvWa (n31+256*cc1_7) un_78 un_5)) ?_
 refine Y2 ?_
 refine Zcp [0] [] (Con.some' (fun s'=>RdT xs (k+st1) ln1 cd S s' (sub text (ev*1+n+e+1) (ev-n-e-1))∧s'.rd=s8.rd+n31∧s'.off=s8.off) (c_advance_Bytes (Vs bi (so+(k+st1)) ln1 (cap-st1)) _ b1 4 none s8 Oa n31 Om) ⟨hN33,adv_rd Om,rfl⟩) rfl ?_
 rintro _ _ ⟨rfl,s34,⟨hR35,hds34,hos34⟩,rfl⟩
 have hks34:=hR35.pos.ok
 have hls34:=hR35.left
 have hvs34:=hks34.val
 refine Y2 ?_
 refine Yy (ZcvNd n31 un_5 un_39) ?_
 refine Yy (Zq (tN cd (sub text (ev*1+n+e+1) (ev-n-e-1))) (ZsubNd (tN cd (sub text (ev*1+n+e) (ev-n-e))) n31)) ?_
 refine Y2 ?_
 refine Yy (Zq cc1_7 (ZshrNb (n31+256*cc1_7) 8)) ?_
 refine Yy (ZcvNa cc1_7 un_78 un_5) ?_
 refine Yy (Zx (n+((ev*1)+e)) ((ev*1)+e) se_22) ?_
 refine Ys (Zsu 4 (n+((ev*1)+e)) sz_5) ?_
 refine Zn ?_
 have hW0:=Got.set (c:=cc1_7) (p:=n+(ev*1+e)) hB0 Om (by rw[hcc1_7];congr 1;omega)
 have hW1:=Got.put (c:=cc1_7) (p:=n+(ev*1+e)) hB1 Om (by rw[hcc1_7];congr 1;omega) Om
 have hW2:=Got.set (c:=cc1_7) (p:=n+(ev*1+e)) hB2 Om (by rw[hcc1_7];congr 1;omega)
 have hW3:=Got.set (c:=cc1_7) (p:=n+(ev*1+e)) hB3 Om (by rw[hcc1_7];congr 1;omega)
 refine YG ?_
 refine Yy (ZaddNh ((ev*1)+e) 1) ?_
 refine GL.nil (GQ.blockN ?_)
 refine GQ.pick [1,0,0,0,0] rfl ?_
 exact Zb ⟨s34,_,(e+1),rfl,hR35.at_eq Om Om,Om,hW0,hW1,hW2,hW3,by simp[hd7],rfl,rfl⟩ (hs:=rfl)
 refine G.exit (GQ.thenE (GQ.thenE (GQ.blockE (GQ.thenN (Y6 ?_)))))
 refine Yy (Zne ((ev*1)+e) (ev*1+(ev-n))) ?_
 refine Zn ?_
 refine Zc (fun h36=>?_) (fun h36=>?_)
 exfalso;omega
 refine Y8 ?_
 refine Yy (ZmulNh ev 1) ?_
 refine Yy (ZsubNh ((ev*1)+e) (ev*1)) ?_
 refine Yy (Zq (4*n+(ev-n)+(ev-n)) (ZaddNh (4*n+(ev-n)) (((ev*1)+e)-(ev*1)))) ?_
 refine Z4 ?_
 have h0:s7.off=0:=Om
 have h64:s7.rd=64:=Om
 refine YG ?_
 refine Zcc [1] [] (c_close_Bytes (Vs bi (so+(k+st1)) ln1 (cap-st1)) _ b1 4 none s7 Oa Oa Oa Om) rfl ?_
 refine Ya ?_
 refine Y2 ?_
 refine Yy (y_neNilNil rfl rfl un_52) ?_
 refine Zn (G.condF rfl (G.skip (GQ.blockN (GQ.thenN (YG ?_)))))
 refine Yy (Zq 2 (ZaddNh 1 1) Od) ?_
 refine GL.nil ?_
 refine GQ.pick [1,0,0,0,0] rfl ?_
 exact Zb (Or.inr (Or.inr (Or.inl ⟨ds7,v0,s7,rfl,hB0,(hB1.at_eq rfl Om),hB2,hB3,hd7,rfl,rfl⟩))) Od
 refine Y5 ?_
 refine Yy (Zlt 2 4) ?_
 refine Z4 ?_
 refine G.condDT rfl Od ?_
 refine Z7 (G.seq (G.block (Y5 ?_)))
 refine Y2 ?_
 refine Yy (ZmulNh ev 2) ?_
 refine Y2 ?_
 refine Yy (ZaddNh (ev*2) (ev-n)) ?_
 refine Yy (Zlen un_22) ?_
 refine Yy (y_congr (y_min (X:=(((ev*2)+(ev-n):Nat):Int)) (Y:=((text.length-n:Nat):Int)) rfl rfl rfl) (congrArg (Value.int .i64) (show min ((((ev*2)+(ev-n):Nat):Int)) (((text.length-n:Nat):Int))=((ev*2+(ev-n):Nat):Int) from by omega))) ?_
 refine Y2 ?_
 refine Yy (Zxa 8 2 ae_151) ?_
 refine Y2 ?_
 refine Zcc [2] [] (k_rem_Bytes (Vs bi (so+(k+st2)) ln2 (cap-st2)) b1 8 none s2 hR2 Om) rfl ?_
 refine Ya ?_
 refine Z4 (G.block ?_)
 refine G.pick [1,1,0,0,0] rfl ?_
 refine Zo (fun mz ρ l=>∃s7:BR,∃ds7:List Nat,∃e:Nat,mz=ev-n-e∧(RdT xs (k+st2) ln2 cd S s7 (sub text (ev*2+n+e) (ev-n-e)))∧(n+e≤ev)∧(Got ds7 text (ev*0) ev)∧(Got ds7 text (ev*1) ev)∧(Got ds7 text (ev*2) (n+e))∧(Got ds7 text (ev*3) n)∧(ds7.length=text.length)∧ρ=[(0,Vp be eo),(1,Vs bd 0 text.length text.length),(8,Vp b1 0),(14,Vh text.length),(15,Vs bd n (text.length-n) (text.length-n)),(16,Vh ev),(17,Vs bt to 256 tcap),(18,Vp b5 0),(20,Vh (4*n+(ev-n)+(ev-n))),(6,.slice none 0 0),(7,Value.nilIface),(30,Vh (ev-n)),(31,Vh 2),(856,Vh 2),(32,Vh ((ev*2)+e)),(33,Vh (ev*2+(ev-n))),(34,Vp b1 8),(35,Vd (tN cd (sub text (ev*2+n+e) (ev-n-e))))]∧l=[⟨b1,0,[.slice none 0 0,Vd v0.off,Vd v0.val,Va v0.rd],none⟩,⟨b1,4,[.slice none 0 0,Vd v1.off,Vd v1.val,Va v1.rd],none⟩,⟨b1,8,[Vs bi (so+(k+st2)) ln2 (cap-st2),Vd s7.off,Vd s7.val,Va s7.rd],none⟩,⟨b1,12,[Vs bi (so+(k+st3)) ln3 (cap-st3),Vd s3.off,Vd s3.val,Va s3.rd],none⟩,⟨bd,0,(nats .u8 ds7),none⟩]) ⟨s2,d3,0,rfl,hR2,Om,hH0,hH1,hH2,hH3,hd3,rfl,rfl⟩ ?_
 rintro _ _ _ ⟨s7,ds7,e,rfl,hR7,he7,hB0,hB1,hB2,hB3,hd7,rfl,rfl⟩
 have hk7:=hR7.pos.ok
 have hv7:=hk7.val
 have hl7:=hR7.left
 have hq7:=hR7.leS hT hL8 Om
 refine Y6 ?_
 refine Yy (Zgt (tN cd (sub text (ev*2+n+e) (ev-n-e))) 0) ?_
 refine Zn ?_
 refine Zc (fun h37=>?_) (fun h37=>?_)
 refine Z7 (G.block (Y6 ?_))
 refine Zcc [2] [] (c_finished_Bytes (Vs bi (so+(k+st2)) ln2 (cap-st2)) _ b1 8 none s7 Oa Om Om) rfl ?_
 refine Zn (G.condF rfl (Z7 (Y6 ?_)))
 refine Yy (Zf fo_150_3) ?_
 refine Yr (Zl 0 3 ag_5) ?_
 refine Yy (Zge s7.rd 56) ?_
 refine Zn ?_
 refine G.meetK (fun ρ l=>∃s8:BR,(RdT xs (k+st2) ln2 cd S s8 (sub text (ev*2+n+e) (ev-n-e)))∧(s8.rd+L≤64∨s8.off=0)∧ρ=[(0,Vp be eo),(1,Vs bd 0 text.length text.length),(8,Vp b1 0),(14,Vh text.length),(15,Vs bd n (text.length-n) (text.length-n)),(16,Vh ev),(17,Vs bt to 256 tcap),(18,Vp b5 0),(20,Vh (4*n+(ev-n)+(ev-n))),(6,.slice none 0 0),(7,Value.nilIface),(30,Vh (ev-n)),(31,Vh 2),(856,Vh 2),(32,Vh ((ev*2)+e)),(33,Vh (ev*2+(ev-n))),(34,Vp b1 8),(35,Vd (tN cd (sub text (ev*2+n+e) (ev-n-e))))]∧l=[⟨b1,8,[Vs bi (so+(k+st2)) ln2 (cap-st2),Vd s8.off,Vd s8.val,Va s8.rd],none⟩,⟨b1,0,[.slice none 0 0,Vd v0.off,Vd v0.val,Va v0.rd],none⟩,⟨b1,4,[.slice none 0 0,Vd v1.off,Vd v1.val,Va v1.rd],none⟩,⟨b1,12,[Vs bi (so+(k+st3)) ln3 (cap-st3),Vd s3.off,Vd s3.val,Va s3.rd],none⟩,⟨bd,0,(nats .u8 ds7),none⟩]) ?_ ?_
 refine Zc (fun h38=>?_) (fun h38=>?_)
 refine Y5 ?_
 refine Yy (Zf fo_150_1) ?_
 refine Yr (Zl 0 1 ag_39) ?_
 refine Yy (Zge s7.off 4) ?_
 refine Zn ?_
 refine Zc (fun h39=>?_) (fun h39=>?_)
 refine G.seq ?_
 refine Zg 0 [y_0,y_1,y_2,r_3,y_4,y_5,y_6,r_7,y_8,y_9,y_10] ?_
 refine Ypa ?_
 refine Ypy (Zf fo_150_0) ?_
 refine Ypr (Zl 0 0 ag_22) ?_
 refine Ypy (Zf fo_150_1) ?_
 refine Ypr (Zl 0 1 ag_39) ?_
 refine Ypy (ZsubNd s7.off 4) ?_
 refine Ypy (y_slL (q':=so+(k+st2+(s7.off-4))) (lo:=s7.off-4) rfl rfl rfl se_22 Om Om) ?_
 refine GP.nil (GQ.thenN (Y5 ?_))
 refine Yy (y_slH (hi:=4) rfl rfl rfl se_22 Om) ?_
 refine Z4 ?_
 have hxa0:=hb.at_ (k+st2+(s7.off-4))
 have hxa1:=hb.at_ (k+st2+(s7.off-4)+1)
 have hxa2:=hb.at_ (k+st2+(s7.off-4)+2)
 have hxa3:=hb.at_ (k+st2+(s7.off-4)+3)
 have hle:=le32_lt hb (k+st2+(s7.off-4))
 refine Zg 0 [y_0,y_1,r_2,y_3,y_4,y_5,r_6,y_7,y_8,y_9,y_10,y_11,r_12,y_13,y_14,y_15,y_16,y_17,r_18,y_19,y_20,y_21,y_22] ?_
 refine Ypa ?_
 refine Ypy (Zx (so+(k+st2+(s7.off-4))) 0 se_22) ?_
 refine Ypr (Zkc 2 (k+st2+(s7.off-4)) ag_5 rfl (nats_get Oy)) ?_
 refine Ypy (ZcvNc (xs.getD (k+st2+(s7.off-4)) 0) un_5 un_75) ?_
 refine Ypy (Zx (so+(k+st2+(s7.off-4)+1)) 1 se_22) ?_
 refine Ypr (Zkc 2 (k+st2+(s7.off-4)+1) ag_5 rfl (nats_get Oy)) ?_
 refine Ypy (ZcvNc (xs.getD (k+st2+(s7.off-4)+1) 0) un_5 un_75) ?_
 refine Ypy (ZshlWc (xs.getD (k+st2+(s7.off-4)+1) 0) 8) ?_
 refine Ypy (ZorNc (xs.getD (k+st2+(s7.off-4)) 0) ((xs.getD (k+st2+(s7.off-4)+1) 0)*2^8%4294967296)) ?_
 refine Ypy (Zx (so+(k+st2+(s7.off-4)+2)) 2 se_22) ?_
 refine Ypr (Zkc 2 (k+st2+(s7.off-4)+2) ag_5 rfl (nats_get Oy)) ?_
 refine Ypy (ZcvNc (xs.getD (k+st2+(s7.off-4)+2) 0) un_5 un_75) ?_
 refine Ypy (ZshlWc (xs.getD (k+st2+(s7.off-4)+2) 0) 16) ?_
 refine Ypy (orN_u32 (m:=(xs.getD (k+st2+(s7.off-4)) 0)|||((xs.getD (k+st2+(s7.off-4)+1) 0)*2^8%4294967296)) (n:=(xs.getD (k+st2+(s7.off-4)+2) 0)*2^16%4294967296) rfl rfl rfl (or_lt32 Om Om) Om) ?_
 refine Ypy (Zx (so+(k+st2+(s7.off-4)+3)) 3 se_22) ?_
 refine Ypr (Zkc 2 (k+st2+(s7.off-4)+3) ag_5 rfl (nats_get Oy)) ?_
 refine Ypy (ZcvNc (xs.getD (k+st2+(s7.off-4)+3) 0) un_5 un_75) ?_
 refine Ypy (ZshlWc (xs.getD (k+st2+(s7.off-4)+3) 0) 24) ?_
 refine Ypy (Zq (le32 xs (k+st2+(s7.off-4))) (orN_u32 (m:=((xs.getD (k+st2+(s7.off-4)) 0)|||((xs.getD (k+st2+(s7.off-4)+1) 0)*2^8%4294967296))|||((xs.getD (k+st2+(s7.off-4)+2) 0)*2^16%4294967296)) (n:=(xs.getD (k+st2+(s7.off-4)+3) 0)*2^24%4294967296) rfl rfl rfl (or_lt32 (or_lt32 Om Om) Om) Om) rfl) ?_
 refine GP.nil (GQ.thenN (G.seq ?_))
 refine Zg 32768 [y_0,y_1,y_2,r_3,y_4,y_5,y_6,y_7,y_8,r_9,y_10,y_11,y_12,y_13,y_14,e_15] ?_
 refine Ypa ?_
 refine Ypy (Zf fo_150_2) ?_
 refine Ypr (Zl 0 2 ag_96) ?_
 refine Ypy (ZcvNd (le32 xs (k+st2+(s7.off-4))) un_75 un_96) ?_
 refine Ypy (Zf fo_150_3) ?_
 refine Ypr (Zl 0 3 ag_5) ?_
 refine Ypy (ZsubNa s7.rd 32) ?_
 refine Ypy (ZshlWd (le32 xs (k+st2+(s7.off-4))) (s7.rd-32)) ?_
 refine Ypy (ZorNd s7.val ((le32 xs (k+st2+(s7.off-4)))*2^(s7.rd-32)%18446744073709551616)) ?_
 refine Ypy (Zf fo_150_2) ?_
 refine Yps (Zst 0 2 sz_96) ?_
 refine GP.nil (GQ.thenN (Y5 ?_))
 refine Yy (Zf fo_150_3) ?_
 refine Yr (Zl 0 3 ag_5) ?_
 refine Yy (ZsubNa s7.rd 32) ?_
 refine Yy (Zf fo_150_3) ?_
 refine Ys (Zst 0 3 sz_5) ?_
 refine Y1 ?_
 refine Yy (Zf fo_150_1) ?_
 refine Yr (Zl 0 1 ag_39) ?_
 refine Yy (ZsubNd s7.off 4) ?_
 refine Yy (Zf fo_150_1) ?_
 refine Ys (Zst 0 1 sz_39) ?_
 refine GL.nil ?_
 obtain⟨s40,hR41,hXs40,hYs40,hzs40⟩:=hR7.load4' hb Om Om rfl
 refine GQ.lists (l':=[⟨b1,8,[Vs bi (so+(k+st2)) ln2 (cap-st2),Vd s40.off,Vd s40.val,Va s40.rd],none⟩,⟨b1,0,[.slice none 0 0,Vd v0.off,Vd v0.val,Va v0.rd],none⟩,⟨b1,4,[.slice none 0 0,Vd v1.off,Vd v1.val,Va v1.rd],none⟩,⟨b1,12,[Vs bi (so+(k+st3)) ln3 (cap-st3),Vd s3.off,Vd s3.val,Va s3.rd],none⟩,⟨bd,0,(nats .u8 ds7),none⟩]) (by rw[←hXs40, ←hYs40, ←hzs40];first|done|rfl) ?_
 have hks40:=hR41.pos.ok
 have hls40:=hR41.left
 exact Zm ⟨s40,hR41,Om,rfl,rfl⟩
 refine G.block ?_
 refine Zo (fun mz ρ l=>∃s9:BR,mz=s9.off∧(RdT xs (k+st2) ln2 cd S s9 (sub text (ev*2+n+e) (ev-n-e)))∧(s9.off<4∧8*s9.off≤s9.rd)∧ρ=[(0,Vp be eo),(1,Vs bd 0 text.length text.length),(8,Vp b1 0),(14,Vh text.length),(15,Vs bd n (text.length-n) (text.length-n)),(16,Vh ev),(17,Vs bt to 256 tcap),(18,Vp b5 0),(20,Vh (4*n+(ev-n)+(ev-n))),(6,.slice none 0 0),(7,Value.nilIface),(30,Vh (ev-n)),(31,Vh 2),(856,Vh 2),(32,Vh ((ev*2)+e)),(33,Vh (ev*2+(ev-n))),(34,Vp b1 8),(35,Vd (tN cd (sub text (ev*2+n+e) (ev-n-e))))]∧l=[⟨b1,8,[Vs bi (so+(k+st2)) ln2 (cap-st2),Vd s9.off,Vd s9.val,Va s9.rd],none⟩,⟨b1,0,[.slice none 0 0,Vd v0.off,Vd v0.val,Va v0.rd],none⟩,⟨b1,4,[.slice none 0 0,Vd v1.off,Vd v1.val,Va v1.rd],none⟩,⟨b1,12,[Vs bi (so+(k+st3)) ln3 (cap-st3),Vd s3.off,Vd s3.val,Va s3.rd],none⟩,⟨bd,0,(nats .u8 ds7),none⟩]) ⟨s7,rfl,hR7,⟨Om,Om⟩,rfl,rfl⟩ ?_
 rintro _ _ _ ⟨s9,rfl,hR9,h9,rfl,rfl⟩
 have hk9:=hR9.pos.ok
 have hl9:=hR9.left
 have hv9:=hk9.val
 have hx9:=hb.at_ (k+st2+(s9.off-1))
 refine Y6 ?_
 refine Yy (Zf fo_150_1) ?_
 refine Yr (Zl 0 1 ag_39) ?_
 refine Yy (Zgt s9.off 0) ?_
 refine Zn ?_
 refine Zc (fun h42=>?_) (fun h42=>?_)
 refine Z7 (G.block (G.seq ?_))
 refine Zg 33554432 [y_0,y_1,y_2,r_3,y_4,y_5,y_6,r_7,y_8,y_9,y_10,r_11,y_12,y_13,r_14,y_15,y_16,y_17,y_18,r_19,y_20,y_21,y_22,y_23,y_24,e_25] ?_
 refine Ypa ?_
 refine Ypy (Zf fo_150_2) ?_
 refine Ypr (Zl 0 2 ag_96) ?_
 refine Ypy (Zf fo_150_0) ?_
 refine Ypr (Zl 0 0 ag_22) ?_
 refine Ypy (Zf fo_150_1) ?_
 refine Ypr (Zl 0 1 ag_39) ?_
 refine Ypy (ZsubNd s9.off 1) ?_
 refine Ypy (Zx (so+(k+st2+(s9.off-1))) (s9.off-1) se_22) ?_
 refine Ypr (Zkc 2 (k+st2+(s9.off-1)) ag_5 rfl (nats_get Oy)) ?_
 refine Ypy (ZcvNd (xs.getD (k+st2+(s9.off-1)) 0) un_5 un_96) ?_
 refine Ypy (Zf fo_150_3) ?_
 refine Ypr (Zl 0 3 ag_5) ?_
 refine Ypy (ZsubNa s9.rd 8) ?_
 refine Ypy (ZshlWd (xs.getD (k+st2+(s9.off-1)) 0) (s9.rd-8)) ?_
 refine Ypy (ZorNd s9.val ((xs.getD (k+st2+(s9.off-1)) 0)*2^(s9.rd-8)%18446744073709551616)) ?_
 refine Ypy (Zf fo_150_2) ?_
 refine Yps (Zst 0 2 sz_96) ?_
 refine GP.nil (GQ.thenN (Y5 ?_))
 refine Yy (Zf fo_150_3) ?_
 refine Yr (Zl 0 3 ag_5) ?_
 refine Yy (ZsubNa s9.rd 8) ?_
 refine Yy (Zf fo_150_3) ?_
 refine Ys (Zst 0 3 sz_5) ?_
 refine Y1 ?_
 refine Yy (Zf fo_150_1) ?_
 refine Yr (Zl 0 1 ag_39) ?_
 refine Yy (ZsubNd s9.off 1) ?_
 refine Yy (Zf fo_150_1) ?_
 refine Ys (Zst 0 1 sz_39) ?_
 refine GL.nil (GQ.blockN ?_)
 exact Zb ⟨(s9.load1 xs (k+st2)),rfl,hR9.load1 hb Om Om,⟨by simp[BR.load1];omega,by simp[BR.load1];omega⟩,rfl,rfl⟩ (by simp[BR.load1];omega)
 refine G.exit (GQ.thenE (GQ.thenE (GQ.blockE ?_)))
 exact Zm ⟨s9,hR9,Om,rfl,rfl⟩
 refine G.skip ?_
 exact Zm ⟨s7,hR7,Om,rfl,rfl⟩
 rintro _ _ ⟨s8,hR8,h8,rfl,rfl⟩
 have hk8:=hR8.pos.ok
 have hv8:=hk8.val
 have hl8:=hR8.left
 refine GQ.thenN (Y6 ?_)
 refine Yy (Zge ((ev*2)+e) (ev*2+(ev-n))) ?_
 refine Zn ?_
 refine Zc (fun h43=>?_) (fun h43=>?_)
 exfalso;omega
 refine Y8 ?_
 obtain⟨cc2_7,n44,p45,hcc2_7,hpp45,hep45,hvp45,hcp45,hap45,hbp45,hrp45,htp45,hN46⟩:=hR8.getS hT hb Om Om
 refine Zcc [0] [] (k_peekB (Vs bi (so+(k+st2)) ln2 (cap-st2)) _ b1 8 none s8 Oa L hL hpp45) rfl ?_
 refine Yy (Zx (to+p45) p45 se_81) ?_
 refine Yy (Zf fo_115_0) ?_
 refine Yr (Zkc 1 p45 ag_78 rfl (nats_getE Om hep45)) ?_
 refine Y2 ?_
 refine Yy (Zq n44 (ZcvWa (n44+256*cc2_7) un_78 un_5)) ?_
 refine Y2 ?_
 refine Zcp [0] [] (Con.some' (fun s'=>RdT xs (k+st2) ln2 cd S s' (sub text (ev*2+n+e+1) (ev-n-e-1))∧s'.rd=s8.rd+n44∧s'.off=s8.off) (c_advance_Bytes (Vs bi (so+(k+st2)) ln2 (cap-st2)) _ b1 8 none s8 Oa n44 Om) ⟨hN46,adv_rd Om,rfl⟩) rfl ?_
 rintro _ _ ⟨rfl,s47,⟨hR48,hds47,hos47⟩,rfl⟩
 have hks47:=hR48.pos.ok
 have hls47:=hR48.left
 have hvs47:=hks47.val
 refine Y2 ?_
 refine Yy (ZcvNd n44 un_5 un_39) ?_
 refine Yy (Zq (tN cd (sub text (ev*2+n+e+1) (ev-n-e-1))) (ZsubNd (tN cd (sub text (ev*2+n+e) (ev-n-e))) n44)) ?_
 refine Y2 ?_
 refine Yy (Zq cc2_7 (ZshrNb (n44+256*cc2_7) 8)) ?_
 refine Yy (ZcvNa cc2_7 un_78 un_5) ?_
 refine Yy (Zx (n+((ev*2)+e)) ((ev*2)+e) se_22) ?_
 refine Ys (Zsu 4 (n+((ev*2)+e)) sz_5) ?_
 refine Zn ?_
 have hW0:=Got.set (c:=cc2_7) (p:=n+(ev*2+e)) hB0 Om (by rw[hcc2_7];congr 1;omega)
 have hW1:=Got.set (c:=cc2_7) (p:=n+(ev*2+e)) hB1 Om (by rw[hcc2_7];congr 1;omega)
 have hW2:=Got.put (c:=cc2_7) (p:=n+(ev*2+e)) hB2 Om (by rw[hcc2_7];congr 1;omega) Om
 have hW3:=Got.set (c:=cc2_7) (p:=n+(ev*2+e)) hB3 Om (by rw[hcc2_7];congr 1;omega)
 refine YG ?_
 refine Yy (ZaddNh ((ev*2)+e) 1) ?_
 refine GL.nil (GQ.blockN ?_)
 refine GQ.pick [1,1,0,0,0] rfl ?_
 exact Zb ⟨s47,_,(e+1),rfl,hR48.at_eq Om Om,Om,hW0,hW1,hW2,hW3,by simp[hd7],rfl,rfl⟩ (hs:=rfl)
 refine G.exit (GQ.thenE (GQ.thenE (GQ.blockE (GQ.thenN (Y6 ?_)))))
 refine Yy (Zne ((ev*2)+e) (ev*2+(ev-n))) ?_
 refine Zn ?_
 refine Zc (fun h49=>?_) (fun h49=>?_)
 exfalso;omega
 refine Y8 ?_
 refine Yy (ZmulNh ev 2) ?_
 refine Yy (ZsubNh ((ev*2)+e) (ev*2)) ?_
 refine Yy (Zq (4*n+(ev-n)+(ev-n)+(ev-n)) (ZaddNh (4*n+(ev-n)+(ev-n)) (((ev*2)+e)-(ev*2)))) ?_
 refine Z4 ?_
 have h0:s7.off=0:=Om
 have h64:s7.rd=64:=Om
 refine YG ?_
 refine Zcc [2] [] (c_close_Bytes (Vs bi (so+(k+st2)) ln2 (cap-st2)) _ b1 8 none s7 Oa Oa Oa Om) rfl ?_
 refine Ya ?_
 refine Y2 ?_
 refine Yy (y_neNilNil rfl rfl un_52) ?_
 refine Zn (G.condF rfl (G.skip (GQ.blockN (GQ.thenN (YG ?_)))))
 refine Yy (Zq 3 (ZaddNh 2 1) Od) ?_
 refine GL.nil ?_
 refine GQ.pick [1,1,0,0,0] rfl ?_
 exact Zb (Or.inr (Or.inr (Or.inr (Or.inl ⟨ds7,v0,v1,s7,rfl,hB0,hB1,(hB2.at_eq rfl Om),hB3,hd7,rfl,rfl⟩)))) Od
 refine Y5 ?_
 refine Yy (Zlt 3 4) ?_
 refine Z4 ?_
 refine G.condDT rfl Od ?_
 refine Z7 (G.seq (G.block (Y5 ?_)))
 refine Y2 ?_
 refine Yy (ZmulNh ev 3) ?_
 refine Y2 ?_
 refine Yy (ZaddNh (ev*3) (ev-n)) ?_
 refine Yy (Zlen un_22) ?_
 refine Yy (y_congr (y_min (X:=(((ev*3)+(ev-n):Nat):Int)) (Y:=((text.length-n:Nat):Int)) rfl rfl rfl) (congrArg (Value.int .i64) (show min ((((ev*3)+(ev-n):Nat):Int)) (((text.length-n:Nat):Int))=((ev*3+(m3-n):Nat):Int) from by omega))) ?_
 refine Y2 ?_
 refine Yy (Zxa 12 3 ae_151) ?_
 refine Y2 ?_
 refine Zcc [3] [] (k_rem_Bytes (Vs bi (so+(k+st3)) ln3 (cap-st3)) b1 12 none s3 hR3 Om) rfl ?_
 refine Ya ?_
 refine Z4 (G.block ?_)
 refine G.pick [1,1,1,0,0] rfl ?_
 refine Zo (fun mz ρ l=>∃s7:BR,∃ds7:List Nat,∃e:Nat,mz=m3-n-e∧(RdT xs (k+st3) ln3 cd S s7 (sub text (ev*3+n+e) (m3-n-e)))∧(n+e≤m3)∧(Got ds7 text (ev*0) ev)∧(Got ds7 text (ev*1) ev)∧(Got ds7 text (ev*2) ev)∧(Got ds7 text (ev*3) (n+e))∧(ds7.length=text.length)∧ρ=[(0,Vp be eo),(1,Vs bd 0 text.length text.length),(8,Vp b1 0),(14,Vh text.length),(15,Vs bd n (text.length-n) (text.length-n)),(16,Vh ev),(17,Vs bt to 256 tcap),(18,Vp b5 0),(20,Vh (4*n+(ev-n)+(ev-n)+(ev-n))),(6,.slice none 0 0),(7,Value.nilIface),(30,Vh (ev-n)),(31,Vh 3),(856,Vh 3),(32,Vh ((ev*3)+e)),(33,Vh (ev*3+(m3-n))),(34,Vp b1 12),(35,Vd (tN cd (sub text (ev*3+n+e) (m3-n-e))))]∧l=[⟨b1,0,[.slice none 0 0,Vd v0.off,Vd v0.val,Va v0.rd],none⟩,⟨b1,4,[.slice none 0 0,Vd v1.off,Vd v1.val,Va v1.rd],none⟩,⟨b1,8,[.slice none 0 0,Vd v2.off,Vd v2.val,Va v2.rd],none⟩,⟨b1,12,[Vs bi (so+(k+st3)) ln3 (cap-st3),Vd s7.off,Vd s7.val,Va s7.rd],none⟩,⟨bd,0,(nats .u8 ds7),none⟩]) ⟨s3,d3,0,rfl,hR3,Om,hH0,hH1,hH2,hH3,hd3,rfl,rfl⟩ ?_
 rintro _ _ _ ⟨s7,ds7,e,rfl,hR7,he7,hB0,hB1,hB2,hB3,hd7,rfl,rfl⟩
 have hk7:=hR7.pos.ok
 have hv7:=hk7.val
 have hl7:=hR7.left
 have hq7:=hR7.leS hT hL8 Om
 refine Y6 ?_
 refine Yy (Zgt (tN cd (sub text (ev*3+n+e) (m3-n-e))) 0) ?_
 refine Zn ?_
 refine Zc (fun h50=>?_) (fun h50=>?_)
 refine Z7 (G.block (Y6 ?_))
 refine Zcc [3] [] (c_finished_Bytes (Vs bi (so+(k+st3)) ln3 (cap-st3)) _ b1 12 none s7 Oa Om Om) rfl ?_
 refine Zn (G.condF rfl (Z7 (Y6 ?_)))
 refine Yy (Zf fo_150_3) ?_
 refine Yr (Zl 0 3 ag_5) ?_
 refine Yy (Zge s7.rd 56) ?_
 refine Zn ?_
 refine G.meetK (fun ρ l=>∃s8:BR,(RdT xs (k+st3) ln3 cd S s8 (sub text (ev*3+n+e) (m3-n-e)))∧(s8.rd+L≤64∨s8.off=0)∧ρ=[(0,Vp be eo),(1,Vs bd 0 text.length text.length),(8,Vp b1 0),(14,Vh text.length),(15,Vs bd n (text.length-n) (text.length-n)),(16,Vh ev),(17,Vs bt to 256 tcap),(18,Vp b5 0),(20,Vh (4*n+(ev-n)+(ev-n)+(ev-n))),(6,.slice none 0 0),(7,Value.nilIface),(30,Vh (ev-n)),(31,Vh 3),(856,Vh 3),(32,Vh ((ev*3)+e)),(33,Vh (ev*3+(m3-n))),(34,Vp b1 12),(35,Vd (tN cd (sub text (ev*3+n+e) (m3-n-e))))]∧l=[⟨b1,12,[Vs bi (so+(k+st3)) ln3 (cap-st3),Vd s8.off,Vd s8.val,Va s8.rd],none⟩,⟨b1,0,[.slice none 0 0,Vd v0.off,Vd v0.val,Va v0.rd],none⟩,⟨b1,4,[.slice none 0 0,Vd v1.off,Vd v1.val,Va v1.rd],none⟩,⟨b1,8,[.slice none 0 0,Vd v2.off,Vd v2.val,Va v2.rd],none⟩,⟨bd,0,(nats .u8 ds7),none⟩]) ?_ ?_
 refine Zc (fun h51=>?_) (fun h51=>?_)
 refine Y5 ?_
 refine Yy (Zf fo_150_1) ?_
 refine Yr (Zl 0 1 ag_39) ?_
 refine Yy (Zge s7.off 4) ?_
 refine Zn ?_
 refine Zc (fun h52=>?_) (fun h52=>?_)
 refine G.seq ?_
 refine Zg 0 [y_0,y_1,y_2,r_3,y_4,y_5,y_6,r_7,y_8,y_9,y_10] ?_
 refine Ypa ?_
 refine Ypy (Zf fo_150_0) ?_
 refine Ypr (Zl 0 0 ag_22) ?_
 refine Ypy (Zf fo_150_1) ?_
 refine Ypr (Zl 0 1 ag_39) ?_
 refine Ypy (ZsubNd s7.off 4) ?_
 refine Ypy (y_slL (q':=so+(k+st3+(s7.off-4))) (lo:=s7.off-4) rfl rfl rfl se_22 Om Om) ?_
 refine GP.nil (GQ.thenN (Y5 ?_))
 refine Yy (y_slH (hi:=4) rfl rfl rfl se_22 Om) ?_
 refine Z4 ?_
 have hxa0:=hb.at_ (k+st3+(s7.off-4))
 have hxa1:=hb.at_ (k+st3+(s7.off-4)+1)
 have hxa2:=hb.at_ (k+st3+(s7.off-4)+2)
 have hxa3:=hb.at_ (k+st3+(s7.off-4)+3)
 have hle:=le32_lt hb (k+st3+(s7.off-4))
 refine Zg 0 [y_0,y_1,r_2,y_3,y_4,y_5,r_6,y_7,y_8,y_9,y_10,y_11,r_12,y_13,y_14,y_15,y_16,y_17,r_18,y_19,y_20,y_21,y_22] ?_
 refine Ypa ?_
 refine Ypy (Zx (so+(k+st3+(s7.off-4))) 0 se_22) ?_
 refine Ypr (Zkc 2 (k+st3+(s7.off-4)) ag_5 rfl (nats_get Oy)) ?_
 refine Ypy (ZcvNc (xs.getD (k+st3+(s7.off-4)) 0) un_5 un_75) ?_
 refine Ypy (Zx (so+(k+st3+(s7.off-4)+1)) 1 se_22) ?_
 refine Ypr (Zkc 2 (k+st3+(s7.off-4)+1) ag_5 rfl (nats_get Oy)) ?_
 refine Ypy (ZcvNc (xs.getD (k+st3+(s7.off-4)+1) 0) un_5 un_75) ?_
 refine Ypy (ZshlWc (xs.getD (k+st3+(s7.off-4)+1) 0) 8) ?_
 refine Ypy (ZorNc (xs.getD (k+st3+(s7.off-4)) 0) ((xs.getD (k+st3+(s7.off-4)+1) 0)*2^8%4294967296)) ?_
 refine Ypy (Zx (so+(k+st3+(s7.off-4)+2)) 2 se_22) ?_
 refine Ypr (Zkc 2 (k+st3+(s7.off-4)+2) ag_5 rfl (nats_get Oy)) ?_
 refine Ypy (ZcvNc (xs.getD (k+st3+(s7.off-4)+2) 0) un_5 un_75) ?_
 refine Ypy (ZshlWc (xs.getD (k+st3+(s7.off-4)+2) 0) 16) ?_
 refine Ypy (orN_u32 (m:=(xs.getD (k+st3+(s7.off-4)) 0)|||((xs.getD (k+st3+(s7.off-4)+1) 0)*2^8%4294967296)) (n:=(xs.getD (k+st3+(s7.off-4)+2) 0)*2^16%4294967296) rfl rfl rfl (or_lt32 Om Om) Om) ?_
 refine Ypy (Zx (so+(k+st3+(s7.off-4)+3)) 3 se_22) ?_
 refine Ypr (Zkc 2 (k+st3+(s7.off-4)+3) ag_5 rfl (nats_get Oy)) ?_
 refine Ypy (ZcvNc (xs.getD (k+st3+(s7.off-4)+3) 0) un_5 un_75) ?_
 refine Ypy (ZshlWc (xs.getD (k+st3+(s7.off-4)+3) 0) 24) ?_
 refine Ypy (Zq (le32 xs (k+st3+(s7.off-4))) (orN_u32 (m:=((xs.getD (k+st3+(s7.off-4)) 0)|||((xs.getD (k+st3+(s7.off-4)+1) 0)*2^8%4294967296))|||((xs.getD (k+st3+(s7.off-4)+2) 0)*2^16%4294967296)) (n:=(xs.getD (k+st3+(s7.off-4)+3) 0)*2^24%4294967296) rfl rfl rfl (or_lt32 (or_lt32 Om Om) Om) Om) rfl) ?_
 refine GP.nil (GQ.thenN (G.seq ?_))
 refine Zg 32768 [y_0,y_1,y_2,r_3,y_4,y_5,y_6,y_7,y_8,r_9,y_10,y_11,y_12,y_13,y_14,e_15] ?_
 refine Ypa ?_
 refine Ypy (Zf fo_150_2) ?_
 refine Ypr (Zl 0 2 ag_96) ?_
 refine Ypy (ZcvNd (le32 xs (k+st3+(s7.off-4))) un_75 un_96) ?_
 refine Ypy (Zf fo_150_3) ?_
 refine Ypr (Zl 0 3 ag_5) ?_
 refine Ypy (ZsubNa s7.rd 32) ?_
 refine Ypy (ZshlWd (le32 xs (k+st3+(s7.off-4))) (s7.rd-32)) ?_
 refine Ypy (ZorNd s7.val ((le32 xs (k+st3+(s7.off-4)))*2^(s7.rd-32)%18446744073709551616)) ?_
 refine Ypy (Zf fo_150_2) ?_
 refine Yps (Zst 0 2 sz_96) ?_
 refine GP.nil (GQ.thenN (Y5 ?_))
 refine Yy (Zf fo_150_3) ?_
 refine Yr (Zl 0 3 ag_5) ?_
 refine Yy (ZsubNa s7.rd 32) ?_
 refine Yy (Zf fo_150_3) ?_
 refine Ys (Zst 0 3 sz_5) ?_
 refine Y1 ?_
 refine Yy (Zf fo_150_1) ?_
 refine Yr (Zl 0 1 ag_39) ?_
 refine Yy (ZsubNd s7.off 4) ?_
 refine Yy (Zf fo_150_1) ?_
 refine Ys (Zst 0 1 sz_39) ?_
 refine GL.nil ?_
 obtain⟨s53,hR54,hXs53,hYs53,hzs53⟩:=hR7.load4' hb Om Om rfl
 refine GQ.lists (l':=[⟨b1,12,[Vs bi (so+(k+st3)) ln3 (cap-st3),Vd s53.off,Vd s53.val,Va s53.rd],none⟩,⟨b1,0,[.slice none 0 0,Vd v0.off,Vd v0.val,Va v0.rd],none⟩,⟨b1,4,[.slice none 0 0,Vd v1.off,Vd v1.val,Va v1.rd],none⟩,⟨b1,8,[.slice none 0 0,Vd v2.off,Vd v2.val,Va v2.rd],none⟩,⟨bd,0,(nats .u8 ds7),none⟩]) (by rw[←hXs53, ←hYs53, ←hzs53];first|done|rfl) ?_
 have hks53:=hR54.pos.ok
 have hls53:=hR54.left
 exact Zm ⟨s53,hR54,Om,rfl,rfl⟩
 refine G.block ?_
 refine Zo (fun mz ρ l=>∃s9:BR,mz=s9.off∧(RdT xs (k+st3) ln3 cd S s9 (sub text (ev*3+n+e) (m3-n-e)))∧(s9.off<4∧8*s9.off≤s9.rd)∧ρ=[(0,Vp be eo),(1,Vs bd 0 text.length text.length),(8,Vp b1 0),(14,Vh text.length),(15,Vs bd n (text.length-n) (text.length-n)),(16,Vh ev),(17,Vs bt to 256 tcap),(18,Vp b5 0),(20,Vh (4*n+(ev-n)+(ev-n)+(ev-n))),(6,.slice none 0 0),(7,Value.nilIface),(30,Vh (ev-n)),(31,Vh 3),(856,Vh 3),(32,Vh ((ev*3)+e)),(33,Vh (ev*3+(m3-n))),(34,Vp b1 12),(35,Vd (tN cd (sub text (ev*3+n+e) (m3-n-e))))]∧l=[⟨b1,12,[Vs bi (so+(k+st3)) ln3 (cap-st3),Vd s9.off,Vd s9.val,Va s9.rd],none⟩,⟨b1,0,[.slice none 0 0,Vd v0.off,Vd v0.val,Va v0.rd],none⟩,⟨b1,4,[.slice none 0 0,Vd v1.off,Vd v1.val,Va v1.rd],none⟩,⟨b1,8,[.slice none 0 0,Vd v2.off,Vd v2.val,Va v2.rd],none⟩,⟨bd,0,(nats .u8 ds7),none⟩]) ⟨s7,rfl,hR7,⟨Om,Om⟩,rfl,rfl⟩ ?_
 rintro _ _ _ ⟨s9,rfl,hR9,h9,rfl,rfl⟩
 have hk9:=hR9.pos.ok
 have hl9:=hR9.left
 have hv9:=hk9.val
 have hx9:=hb.at_ (k+st3+(s9.off-1))
 refine Y6 ?_
 refine Yy (Zf fo_150_1) ?_
 refine Yr (Zl 0 1 ag_39) ?_
 refine Yy (Zgt s9.off 0) ?_
 refine Zn ?_
 refine Zc (fun h55=>?_) (fun h55=>?_)
 refine Z7 (G.block (G.seq ?_))
 refine Zg 33554432 [y_0,y_1,y_2,r_3,y_4,y_5,y_6,r_7,y_8,y_9,y_10,r_11,y_12,y_13,r_14,y_15,y_16,y_17,y_18,r_19,y_20,y_21,y_22,y_23,y_24,e_25] ?_
 refine Ypa ?_
 refine Ypy (Zf fo_150_2) ?_
 refine Ypr (Zl 0 2 ag_96) ?_
 refine Ypy (Zf fo_150_0) ?_
 refine Ypr (Zl 0 0 ag_22) ?_
 refine Ypy (Zf fo_150_1) ?_
 refine Ypr (Zl 0 1 ag_39) ?_
 refine Ypy (ZsubNd s9.off 1) ?_
 refine Ypy (Zx (so+(k+st3+(s9.off-1))) (s9.off-1) se_22) ?_
 refine Ypr (Zkc 2 (k+st3+(s9.off-1)) ag_5 rfl (nats_get Oy)) ?_
 refine Ypy (ZcvNd (xs.getD (k+st3+(s9.off-1)) 0) un_5 un_96) ?_
 refine Ypy (Zf fo_150_3) ?_
 refine Ypr (Zl 0 3 ag_5) ?_
 refine Ypy (ZsubNa s9.rd 8) ?_
 refine Ypy (ZshlWd (xs.getD (k+st3+(s9.off-1)) 0) (s9.rd-8)) ?_
 refine Ypy (ZorNd s9.val ((xs.getD (k+st3+(s9.off-1)) 0)*2^(s9.rd-8)%18446744073709551616)) ?_
 refine Ypy (Zf fo_150_2) ?_
 refine Yps (Zst 0 2 sz_96) ?_
 refine GP.nil (GQ.thenN (Y5 ?_))
 refine Yy (Zf fo_150_3) ?_
 refine Yr (Zl 0 3 ag_5) ?_
 refine Yy (ZsubNa s9.rd 8) ?_
 refine Yy (Zf fo_150_3) ?_
 refine Ys (Zst 0 3 sz_5) ?_
 refine Y1 ?_
 refine Yy (Zf fo_150_1) ?_
 refine Yr (Zl 0 1 ag_39) ?_
 refine Yy (ZsubNd s9.off 1) ?_
 refine Yy (Zf fo_150_1) ?_
 refine Ys (Zst 0 1 sz_39) ?_
 refine GL.nil (GQ.blockN ?_)
 exact Zb ⟨(s9.load1 xs (k+st3)),rfl,hR9.load1 hb Om Om,⟨by simp[BR.load1];omega,by simp[BR.load1];omega⟩,rfl,rfl⟩ (by simp[BR.load1];omega)
 refine G.exit (GQ.thenE (GQ.thenE (GQ.blockE ?_)))
 exact Zm ⟨s9,hR9,Om,rfl,rfl⟩
 refine G.skip ?_
 exact Zm ⟨s7,hR7,Om,rfl,rfl⟩
 rintro _ _ ⟨s8,hR8,h8,rfl,rfl⟩
 have hk8:=hR8.pos.ok
 have hv8:=hk8.val
 have hl8:=hR8.left
 refine GQ.thenN (Y6 ?_)
 refine Yy (Zge ((ev*3)+e) (ev*3+(m3-n))) ?_
 refine Zn ?_
 refine Zc (fun h56=>?_) (fun h56=>?_)
 exfalso;omega
 refine Y8 ?_
 obtain⟨cc3_7,n57,p58,hcc3_7,hpp58,hep58,hvp58,hcp58,hap58,hbp58,hrp58,htp58,hN59⟩:=hR8.getS hT hb Om Om
 refine Zcc [0] [] (k_peekB (Vs bi (so+(k+st3)) ln3 (cap-st3)) _ b1 12 none s8 Oa L hL hpp58) rfl ?_
 refine Yy (Zx (to+p58) p58 se_81) ?_
 refine Yy (Zf fo_115_0) ?_
 refine Yr (Zkc 1 p58 ag_78 rfl (nats_getE Om hep58)) ?_
 refine Y2 ?_
 refine Yy (Zq n57 (ZcvWa (n57+256*cc3_7) un_78 un_5)) ?_
 refine Y2 ?_
 refine Zcp [0] [] (Con.some' (fun s'=>RdT xs (k+st3) ln3 cd S s' (sub text (ev*3+n+e+1) (m3-n-e-1))∧s'.rd=s8.rd+n57∧s'.off=s8.off) (c_advance_Bytes (Vs bi (so+(k+st3)) ln3 (cap-st3)) _ b1 12 none s8 Oa n57 Om) ⟨hN59,adv_rd Om,rfl⟩) rfl ?_
 rintro _ _ ⟨rfl,s60,⟨hR61,hds60,hos60⟩,rfl⟩
 have hks60:=hR61.pos.ok
 have hls60:=hR61.left
 have hvs60:=hks60.val
 refine Y2 ?_
 refine Yy (ZcvNd n57 un_5 un_39) ?_
 refine Yy (Zq (tN cd (sub text (ev*3+n+e+1) (m3-n-e-1))) (ZsubNd (tN cd (sub text (ev*3+n+e) (m3-n-e))) n57)) ?_
 refine Y2 ?_
 refine Yy (Zq cc3_7 (ZshrNb (n57+256*cc3_7) 8)) ?_
 refine Yy (ZcvNa cc3_7 un_78 un_5) ?_
 refine Yy (Zx (n+((ev*3)+e)) ((ev*3)+e) se_22) ?_
 refine Ys (Zsu 4 (n+((ev*3)+e)) sz_5) ?_
 refine Zn ?_
 have hW0:=Got.set (c:=cc3_7) (p:=n+(ev*3+e)) hB0 Om (by rw[hcc3_7];congr 1;omega)
 have hW1:=Got.set (c:=cc3_7) (p:=n+(ev*3+e)) hB1 Om (by rw[hcc3_7];congr 1;omega)
 have hW2:=Got.set (c:=cc3_7) (p:=n+(ev*3+e)) hB2 Om (by rw[hcc3_7];congr 1;omega)
 have hW3:=Got.put (c:=cc3_7) (p:=n+(ev*3+e)) hB3 Om (by rw[hcc3_7];congr 1;omega) Om
 refine YG ?_
 refine Yy (ZaddNh ((ev*3)+e) 1) ?_
 refine GL.nil (GQ.blockN ?_)
 refine GQ.pick [1,1,1,0,0] rfl ?_
 exact Zb ⟨s60,_,(e+1),rfl,hR61.at_eq Om Om,Om,hW0,hW1,hW2,hW3,by simp[hd7],rfl,rfl⟩ (hs:=rfl)
 refine G.exit (GQ.thenE (GQ.thenE (GQ.blockE (GQ.thenN (Y6 ?_)))))
 refine Yy (Zne ((ev*3)+e) (ev*3+(m3-n))) ?_
 refine Zn ?_
 refine Zc (fun h62=>?_) (fun h62=>?_)
 exfalso;omega
 refine Y8 ?_
 refine Yy (ZmulNh ev 3) ?_
 refine Yy (ZsubNh ((ev*3)+e) (ev*3)) ?_
 refine Yy (Zq text.length (ZaddNh (4*n+(ev-n)+(ev-n)+(ev-n)) (((ev*3)+e)-(ev*3)))) ?_
 refine Z4 ?_
 have h0:s7.off=0:=Om
 have h64:s7.rd=64:=Om
 refine YG ?_
 refine Zcc [3] [] (c_close_Bytes (Vs bi (so+(k+st3)) ln3 (cap-st3)) _ b1 12 none s7 Oa Oa Oa Om) rfl ?_
 refine Ya ?_
 refine Y2 ?_
 refine Yy (y_neNilNil rfl rfl un_52) ?_
 refine Zn (G.condF rfl (G.skip (GQ.blockN (GQ.thenN (YG ?_)))))
 refine Yy (Zq 4 (ZaddNh 3 1) Od) ?_
 refine GL.nil ?_
 refine GQ.pick [1,1,1,0,0] rfl ?_
 exact Zb (Or.inr (Or.inr (Or.inr (Or.inr (⟨ds7,v0,v1,v2,s7,rfl,hB0,hB1,hB2,(hB3.at_eq rfl Om),hd7,rfl,rfl⟩))))) Od
 refine Y5 ?_
 refine Yy (Zlt 4 4) ?_
 refine Z4 ?_
 refine G.condDF rfl Od ?_
 refine G.exit (GQ.thenE (GQ.thenE (GQ.blockE (GQ.thenN (Y5 ?_)))))
 refine Yy (Zf fo_119_2) ?_
 refine Yr (Zk 0 2 ag_117) ?_
 refine Yy (y_mi rfl rfl un_124 rfl) ?_
 refine Zcc [] [] (c_poolPut _ _) rfl ?_
 refine Y3 ?_
 refine Yy (Zne text.length text.length) ?_
 refine Zn ?_
 refine Zc (fun h63=>?_) (fun h63=>?_)
 exfalso;omega
 refine Y8 ?_
 refine Zn (G.ret ?_)
 repeat first|refine ZR ?_|refine ZB ?_
 exact ret2 [4] rfl rfl rfl rfl (⟨some ⟨bd,0,none⟩,bd,0,nats .u8 d3,text.length,rfl,⟨by simp[hd3],.inl rfl⟩,Nat.le_refl _,by rw[got4 hd3 hm3 hH0 hH1 hH2 hH3,List.take_of_length_le Oi],rfl⟩)
 have hw2:=hw hwc
 have hn2:n+4≤m3:=Om
 have hrd0:=hR0.pos.rd
 have hrd1:=hR1.pos.rd
 have hrd2:=hR2.pos.rd
 have hrd3:=hR3.pos.rd
 clear hl0 hl1 hl2 hl3 hq0 hq1 hq2 hq3 hv0 hv1 hv2 hv3
 refine Z7 (Y6 ?_)
 refine Yy (Zxa 0 0 ae_151) ?_
 refine Y2 ?_
 refine Yy (Zxa 4 1 ae_151) ?_
 refine Y2 ?_
 refine Zcp [0] [10] (Con.some' (fun s'=>RdT xs (k+6) ln0 cd S s' (sub text (ev*0+n) (ev-n))∧s'.rd≤32∧s0.off≤s'.off+4∧s'.off≤s0.off) (c_fillFast_Bytes bi so shi xs (k+6) ln0 (cap-6) Om Om Om b1 0 none s0 Oa Oa Om Om) (RdT.fillFast hR0 Oa Om)) rfl ?_
 rintro _ _ ⟨rfl,s64,⟨hR65,hfs64, -, -⟩,rfl⟩
 have hks64:=hR65.pos.ok
 have hvs64:=hks64.val
 refine Y2 ?_
 refine Zcp [1] [10] (Con.some' (fun s'=>RdT xs (k+st1) ln1 cd S s' (sub text (ev*1+n) (ev-n))∧s'.rd≤32∧s1.off≤s'.off+4∧s'.off≤s1.off) (c_fillFast_Bytes bi so shi xs (k+st1) ln1 (cap-st1) Om Om Om b1 4 none s1 Oa Oa Om Om) (RdT.fillFast hR1 Oa Om)) rfl ?_
 rintro _ _ ⟨rfl,s66,⟨hR67,hfs66, -, -⟩,rfl⟩
 have hks66:=hR67.pos.ok
 have hvs66:=hks66.val
 refine Y2 ?_
 obtain⟨cc0_0,n68,p69,hcc0_0,hpp69,hep69,hvp69,hcp69, -,hap69,hrp69, -,hN70⟩:=hR65.getS hT hb Om Om
 refine Yy (Zf fo_150_2) ?_
 refine Yr (Zl 1 2 ag_96) ?_
 refine Yy (Zq p69 (ZshrNd s64.val 56) (by rw[←hpp69,hL])) ?_
 refine Yy (ZcvNa p69 un_96 un_5) ?_
 refine Yy (Zx (to+p69) p69 se_81) ?_
 refine Yy (Zf fo_115_0) ?_
 refine Yr (Zkc 1 p69 ag_78 rfl (nats_getE Om hep69)) ?_
 refine Y2 ?_
 obtain⟨cc1_0,n71,p72,hcc1_0,hpp72,hep72,hvp72,hcp72, -,hap72,hrp72, -,hN73⟩:=hR67.getS hT hb Om Om
 refine Yy (Zf fo_150_2) ?_
 refine Yr (Zl 0 2 ag_96) ?_
 refine Yy (Zq p72 (ZshrNd s66.val 56) (by rw[←hpp72,hL])) ?_
 refine Yy (ZcvNa p72 un_96 un_5) ?_
 refine Yy (Zx (to+p72) p72 se_81) ?_
 refine Yy (Zf fo_115_0) ?_
 refine Yr (Zkc 1 p72 ag_78 rfl (nats_getE Om hep72)) ?_
 refine Y2 ?_
 refine Yy (Zf fo_150_3) ?_
 refine Yr (Zl 1 3 ag_5) ?_
 refine Yy (Zq n68 (ZcvWa (n68+256*cc0_0) un_78 un_5)) ?_
 refine Yy (ZaddNa s64.rd n68) ?_
 refine Yy (Zf fo_150_3) ?_
 refine Ys (Zst 1 3 sz_5) ?_
 refine Y2 ?_
 refine Yy (Zf fo_150_2) ?_
 refine Yr (Zl 1 2 ag_96) ?_
 refine Yy (Zq n68 (ZandNb (n68+256*cc0_0) 63) (and63e Om)) ?_
 refine Yy (ZshlWd s64.val n68) ?_
 refine Yy (Zf fo_150_2) ?_
 refine Ys (Zst 1 2 sz_96) ?_
 refine Z4 ?_
 obtain⟨s74,hR75,hzs74,hXs74,hYs74⟩:=RdT.folded (X:=s64.val*2^n68%18446744073709551616) (Y:=s64.rd+n68) hN70 Om rfl rfl Om
 refine G.lists (l':=[⟨b1,4,[Vs bi (so+(k+st1)) ln1 (cap-st1),Vd s66.off,Vd s66.val,Va s66.rd],none⟩,⟨b1,0,[Vs bi (so+(k+6)) ln0 (cap-6),Vd s74.off,Vd s74.val,Va s74.rd],none⟩,⟨b1,8,[Vs bi (so+(k+st2)) ln2 (cap-st2),Vd s2.off,Vd s2.val,Va s2.rd],none⟩,⟨b1,12,[Vs bi (so+(k+st3)) ln3 (cap-st3),Vd s3.off,Vd s3.val,Va s3.rd],none⟩,⟨b5,0,(nats .u8 y0),none⟩,⟨b5,256,(nats .u8 y1),none⟩,⟨b5,512,(nats .u8 y2),none⟩,⟨b5,768,(nats .u8 y3),none⟩,⟨bd,0,(nats .u8 ds),none⟩]) (by rw[←hXs74, ←hYs74, ←hzs74];first|done|rfl) ?_
 have hks74:=hR75.pos.ok
 have hvs74:=hks74.val
 have hfs74:s74.rd≤40:=Om
 clear hXs74 hYs74 hzs74
 refine YG ?_
 refine Yy (Zf fo_150_3) ?_
 refine Yr (Zl 0 3 ag_5) ?_
 refine Yy (Zq n71 (ZcvWa (n71+256*cc1_0) un_78 un_5)) ?_
 refine Yy (ZaddNa s66.rd n71) ?_
 refine Yy (Zf fo_150_3) ?_
 refine Ys (Zst 0 3 sz_5) ?_
 refine Y2 ?_
 refine Yy (Zf fo_150_2) ?_
 refine Yr (Zl 0 2 ag_96) ?_
 refine Yy (Zq n71 (ZandNb (n71+256*cc1_0) 63) (and63e Om)) ?_
 refine Yy (ZshlWd s66.val n71) ?_
 refine Yy (Zf fo_150_2) ?_
 refine Ys (Zst 0 2 sz_96) ?_
 refine Z4 ?_
 obtain⟨s76,hR77,hzs76,hXs76,hYs76⟩:=RdT.folded (X:=s66.val*2^n71%18446744073709551616) (Y:=s66.rd+n71) hN73 Om rfl rfl Om
 refine G.lists (l':=[⟨b1,4,[Vs bi (so+(k+st1)) ln1 (cap-st1),Vd s76.off,Vd s76.val,Va s76.rd],none⟩,⟨b1,0,[Vs bi (so+(k+6)) ln0 (cap-6),Vd s74.off,Vd s74.val,Va s74.rd],none⟩,⟨b1,8,[Vs bi (so+(k+st2)) ln2 (cap-st2),Vd s2.off,Vd s2.val,Va s2.rd],none⟩,⟨b1,12,[Vs bi (so+(k+st3)) ln3 (cap-st3),Vd s3.off,Vd s3.val,Va s3.rd],none⟩,⟨b5,0,(nats .u8 y0),none⟩,⟨b5,256,(nats .u8 y1),none⟩,⟨b5,512,(nats .u8 y2),none⟩,⟨b5,768,(nats .u8 y3),none⟩,⟨bd,0,(nats .u8 ds),none⟩]) (by rw[←hXs76, ←hYs76, ←hzs76];first|done|rfl) ?_
 have hks76:=hR77.pos.ok
 have hvs76:=hks76.val
 have hfs76:s76.rd≤40:=Om
 clear hXs76 hYs76 hzs76
 refine YG ?_
 refine Yy (Zq cc0_0 (ZshrNb (n68+256*cc0_0) 8)) ?_
 refine Yy (ZcvNa cc0_0 un_78 un_5) ?_
 refine Yy (Zxa 0 0 ae_156) ?_
 refine Yy (Zxb ob ob ae_89) ?_
 refine Ys (Zsu 4 ob sz_5) ?_
 refine Y2 ?_
 refine Yy (Zq cc1_0 (ZshrNb (n71+256*cc1_0) 8)) ?_
 refine Yy (ZcvNa cc1_0 un_78 un_5) ?_
 refine Yy (Zxa 256 1 ae_156) ?_
 refine Yy (Zxb (256+ob) ob ae_89) ?_
 refine Ys (Zsu 5 ob sz_5) ?_
 refine Z4 ?_
 clear hvs64 hfs64 hvs66 hfs66 hpp69 hep69 hvp69 hcp69 hap69 hrp69 hpp72 hep72 hvp72 hcp72 hap72 hrp72
 refine YG ?_
 obtain⟨cc0_1,n78,p79,hcc0_1,hpp79,hep79,hvp79,hcp79, -,hap79,hrp79, -,hN80⟩:=hR75.getS hT hb Om Om
 refine Yy (Zf fo_150_2) ?_
 refine Yr (Zl 1 2 ag_96) ?_
 refine Yy (Zq p79 (ZshrNd s74.val 56) (by rw[←hpp79,hL])) ?_
 refine Yy (ZcvNa p79 un_96 un_5) ?_
 refine Yy (Zx (to+p79) p79 se_81) ?_
 refine Yy (Zf fo_115_0) ?_
 refine Yr (Zkc 1 p79 ag_78 rfl (nats_getE Om hep79)) ?_
 refine Y2 ?_
 obtain⟨cc1_1,n81,p82,hcc1_1,hpp82,hep82,hvp82,hcp82, -,hap82,hrp82, -,hN83⟩:=hR77.getS hT hb Om Om
 refine Yy (Zf fo_150_2) ?_
 refine Yr (Zl 0 2 ag_96) ?_
 refine Yy (Zq p82 (ZshrNd s76.val 56) (by rw[←hpp82,hL])) ?_
 refine Yy (ZcvNa p82 un_96 un_5) ?_
 refine Yy (Zx (to+p82) p82 se_81) ?_
 refine Yy (Zf fo_115_0) ?_
 refine Yr (Zkc 1 p82 ag_78 rfl (nats_getE Om hep82)) ?_
 refine Y2 ?_
 refine Yy (Zf fo_150_3) ?_
 refine Yr (Zl 1 3 ag_5) ?_
 refine Yy (Zq n78 (ZcvWa (n78+256*cc0_1) un_78 un_5)) ?_
 refine Yy (ZaddNa s74.rd n78) ?_
 refine Yy (Zf fo_150_3) ?_
 refine Ys (Zst 1 3 sz_5) ?_
 refine Y2 ?_
 refine Yy (Zf fo_150_2) ?_
 refine Yr (Zl 1 2 ag_96) ?_
 refine Yy (Zq n78 (ZandNb (n78+256*cc0_1) 63) (and63e Om)) ?_
 refine Yy (ZshlWd s74.val n78) ?_
 refine Yy (Zf fo_150_2) ?_
 refine Ys (Zst 1 2 sz_96) ?_
 refine Z4 ?_
 obtain⟨s84,hR85,hzs84,hXs84,hYs84⟩:=RdT.folded (X:=s74.val*2^n78%18446744073709551616) (Y:=s74.rd+n78) hN80 Om rfl rfl Om
 refine G.lists (l':=[⟨b1,4,[Vs bi (so+(k+st1)) ln1 (cap-st1),Vd s76.off,Vd s76.val,Va s76.rd],none⟩,⟨b1,0,[Vs bi (so+(k+6)) ln0 (cap-6),Vd s84.off,Vd s84.val,Va s84.rd],none⟩,⟨b1,8,[Vs bi (so+(k+st2)) ln2 (cap-st2),Vd s2.off,Vd s2.val,Va s2.rd],none⟩,⟨b1,12,[Vs bi (so+(k+st3)) ln3 (cap-st3),Vd s3.off,Vd s3.val,Va s3.rd],none⟩,⟨b5,0,(nats .u8 (y0.set ob cc0_0)),none⟩,⟨b5,256,(nats .u8 (y1.set ob cc1_0)),none⟩,⟨b5,512,(nats .u8 y2),none⟩,⟨b5,768,(nats .u8 y3),none⟩,⟨bd,0,(nats .u8 ds),none⟩]) (by rw[←hXs84, ←hYs84, ←hzs84];first|done|rfl) ?_
 have hks84:=hR85.pos.ok
 have hvs84:=hks84.val
 have hfs84:s84.rd≤48:=Om
 clear hXs84 hYs84 hzs84
 refine YG ?_
 refine Yy (Zf fo_150_3) ?_
 refine Yr (Zl 0 3 ag_5) ?_
 refine Yy (Zq n81 (ZcvWa (n81+256*cc1_1) un_78 un_5)) ?_
 refine Yy (ZaddNa s76.rd n81) ?_
 refine Yy (Zf fo_150_3) ?_
 refine Ys (Zst 0 3 sz_5) ?_
 refine Y2 ?_
 refine Yy (Zf fo_150_2) ?_
 refine Yr (Zl 0 2 ag_96) ?_
 refine Yy (Zq n81 (ZandNb (n81+256*cc1_1) 63) (and63e Om)) ?_
 refine Yy (ZshlWd s76.val n81) ?_
 refine Yy (Zf fo_150_2) ?_
 refine Ys (Zst 0 2 sz_96) ?_
 refine Z4 ?_
 obtain⟨s86,hR87,hzs86,hXs86,hYs86⟩:=RdT.folded (X:=s76.val*2^n81%18446744073709551616) (Y:=s76.rd+n81) hN83 Om rfl rfl Om
 refine G.lists (l':=[⟨b1,4,[Vs bi (so+(k+st1)) ln1 (cap-st1),Vd s86.off,Vd s86.val,Va s86.rd],none⟩,⟨b1,0,[Vs bi (so+(k+6)) ln0 (cap-6),Vd s84.off,Vd s84.val,Va s84.rd],none⟩,⟨b1,8,[Vs bi (so+(k+st2)) ln2 (cap-st2),Vd s2.off,Vd s2.val,Va s2.rd],none⟩,⟨b1,12,[Vs bi (so+(k+st3)) ln3 (cap-st3),Vd s3.off,Vd s3.val,Va s3.rd],none⟩,⟨b5,0,(nats .u8 (y0.set ob cc0_0)),none⟩,⟨b5,256,(nats .u8 (y1.set ob cc1_0)),none⟩,⟨b5,512,(nats .u8 y2),none⟩,⟨b5,768,(nats .u8 y3),none⟩,⟨bd,0,(nats .u8 ds),none⟩]) (by rw[←hXs86, ←hYs86, ←hzs86];first|done|rfl) ?_
 have hks86:=hR87.pos.ok
 have hvs86:=hks86.val
 have hfs86:s86.rd≤48:=Om
 clear hXs86 hYs86 hzs86
 refine YG ?_
 refine Yy (ZaddNa ob 1) ?_
 refine Yy (Zq cc0_1 (ZshrNb (n78+256*cc0_1) 8)) ?_
 refine Yy (ZcvNa cc0_1 un_78 un_5) ?_
 refine Yy (Zxa 0 0 ae_156) ?_
 refine Yy (Zxb (ob+1) (ob+1) ae_89) ?_
 refine Ys (Zsu 4 (ob+1) sz_5) ?_
 refine Y2 ?_
 refine Yy (ZaddNa ob 1) ?_
 refine Yy (Zq cc1_1 (ZshrNb (n81+256*cc1_1) 8)) ?_
 refine Yy (ZcvNa cc1_1 un_78 un_5) ?_
 refine Yy (Zxa 256 1 ae_156) ?_
 refine Yy (Zxb (256+(ob+1)) (ob+1) ae_89) ?_
 refine Ys (Zsu 5 (ob+1) sz_5) ?_
 refine Z4 ?_
 clear hvs74 hfs74 hvs76 hfs76 hpp79 hep79 hvp79 hcp79 hap79 hrp79 hpp82 hep82 hvp82 hcp82 hap82 hrp82
 refine YG ?_
 obtain⟨cc0_2,n88,p89,hcc0_2,hpp89,hep89,hvp89,hcp89, -,hap89,hrp89, -,hN90⟩:=hR85.getS hT hb Om Om
 refine Yy (Zf fo_150_2) ?_
 refine Yr (Zl 1 2 ag_96) ?_
 refine Yy (Zq p89 (ZshrNd s84.val 56) (by rw[←hpp89,hL])) ?_
 refine Yy (ZcvNa p89 un_96 un_5) ?_
 refine Yy (Zx (to+p89) p89 se_81) ?_
 refine Yy (Zf fo_115_0) ?_
 refine Yr (Zkc 1 p89 ag_78 rfl (nats_getE Om hep89)) ?_
 refine Y2 ?_
 obtain⟨cc1_2,n91,p92,hcc1_2,hpp92,hep92,hvp92,hcp92, -,hap92,hrp92, -,hN93⟩:=hR87.getS hT hb Om Om
 refine Yy (Zf fo_150_2) ?_
 refine Yr (Zl 0 2 ag_96) ?_
 refine Yy (Zq p92 (ZshrNd s86.val 56) (by rw[←hpp92,hL])) ?_
 refine Yy (ZcvNa p92 un_96 un_5) ?_
 refine Yy (Zx (to+p92) p92 se_81) ?_
 refine Yy (Zf fo_115_0) ?_
 refine Yr (Zkc 1 p92 ag_78 rfl (nats_getE Om hep92)) ?_
 refine Y2 ?_
 refine Yy (Zf fo_150_3) ?_
 refine Yr (Zl 1 3 ag_5) ?_
 refine Yy (Zq n88 (ZcvWa (n88+256*cc0_2) un_78 un_5)) ?_
 refine Yy (ZaddNa s84.rd n88) ?_
 refine Yy (Zf fo_150_3) ?_
 refine Ys (Zst 1 3 sz_5) ?_
 refine Y2 ?_
 refine Yy (Zf fo_150_2) ?_
 refine Yr (Zl 1 2 ag_96) ?_
 refine Yy (Zq n88 (ZandNb (n88+256*cc0_2) 63) (and63e Om)) ?_
 refine Yy (ZshlWd s84.val n88) ?_
 refine Yy (Zf fo_150_2) ?_
 refine Ys (Zst 1 2 sz_96) ?_
 refine Z4 ?_
 obtain⟨s94,hR95,hzs94,hXs94,hYs94⟩:=RdT.folded (X:=s84.val*2^n88%18446744073709551616) (Y:=s84.rd+n88) hN90 Om rfl rfl Om
 refine G.lists (l':=[⟨b1,4,[Vs bi (so+(k+st1)) ln1 (cap-st1),Vd s86.off,Vd s86.val,Va s86.rd],none⟩,⟨b1,0,[Vs bi (so+(k+6)) ln0 (cap-6),Vd s94.off,Vd s94.val,Va s94.rd],none⟩,⟨b1,8,[Vs bi (so+(k+st2)) ln2 (cap-st2),Vd s2.off,Vd s2.val,Va s2.rd],none⟩,⟨b1,12,[Vs bi (so+(k+st3)) ln3 (cap-st3),Vd s3.off,Vd s3.val,Va s3.rd],none⟩,⟨b5,0,(nats .u8 ((y0.set ob cc0_0).set (ob+1) cc0_1)),none⟩,⟨b5,256,(nats .u8 ((y1.set ob cc1_0).set (ob+1) cc1_1)),none⟩,⟨b5,512,(nats .u8 y2),none⟩,⟨b5,768,(nats .u8 y3),none⟩,⟨bd,0,(nats .u8 ds),none⟩]) (by rw[←hXs94, ←hYs94, ←hzs94];first|done|rfl) ?_
 have hks94:=hR95.pos.ok
 have hvs94:=hks94.val
 have hfs94:s94.rd≤56:=Om
 clear hXs94 hYs94 hzs94
 refine YG ?_
 refine Yy (Zf fo_150_3) ?_
 refine Yr (Zl 0 3 ag_5) ?_
 refine Yy (Zq n91 (ZcvWa (n91+256*cc1_2) un_78 un_5)) ?_
 refine Yy (ZaddNa s86.rd n91) ?_
 refine Yy (Zf fo_150_3) ?_
 refine Ys (Zst 0 3 sz_5) ?_
 refine Y2 ?_
 refine Yy (Zf fo_150_2) ?_
 refine Yr (Zl 0 2 ag_96) ?_
 refine Yy (Zq n91 (ZandNb (n91+256*cc1_2) 63) (and63e Om)) ?_
 refine Yy (ZshlWd s86.val n91) ?_
 refine Yy (Zf fo_150_2) ?_
 refine Ys (Zst 0 2 sz_96) ?_
 refine Z4 ?_
 obtain⟨s96,hR97,hzs96,hXs96,hYs96⟩:=RdT.folded (X:=s86.val*2^n91%18446744073709551616) (Y:=s86.rd+n91) hN93 Om rfl rfl Om
 refine G.lists (l':=[⟨b1,4,[Vs bi (so+(k+st1)) ln1 (cap-st1),Vd s96.off,Vd s96.val,Va s96.rd],none⟩,⟨b1,0,[Vs bi (so+(k+6)) ln0 (cap-6),Vd s94.off,Vd s94.val,Va s94.rd],none⟩,⟨b1,8,[Vs bi (so+(k+st2)) ln2 (cap-st2),Vd s2.off,Vd s2.val,Va s2.rd],none⟩,⟨b1,12,[Vs bi (so+(k+st3)) ln3 (cap-st3),Vd s3.off,Vd s3.val,Va s3.rd],none⟩,⟨b5,0,(nats .u8 ((y0.set ob cc0_0).set (ob+1) cc0_1)),none⟩,⟨b5,256,(nats .u8 ((y1.set ob cc1_0).set (ob+1) cc1_1)),none⟩,⟨b5,512,(nats .u8 y2),none⟩,⟨b5,768,(nats .u8 y3),none⟩,⟨bd,0,(nats .u8 ds),none⟩]) (by rw[←hXs96, ←hYs96, ←hzs96];first|done|rfl) ?_
 have hks96:=hR97.pos.ok
 have hvs96:=hks96.val
 have hfs96:s96.rd≤56:=Om
 clear hXs96 hYs96 hzs96
 refine YG ?_
 refine Yy (ZaddNa ob 2) ?_
 refine Yy (Zq cc0_2 (ZshrNb (n88+256*cc0_2) 8)) ?_
 refine Yy (ZcvNa cc0_2 un_78 un_5) ?_
 refine Yy (Zxa 0 0 ae_156) ?_
 refine Yy (Zxb (ob+2) (ob+2) ae_89) ?_
 refine Ys (Zsu 4 (ob+2) sz_5) ?_
 refine Y2 ?_
 refine Yy (ZaddNa ob 2) ?_
 refine Yy (Zq cc1_2 (ZshrNb (n91+256*cc1_2) 8)) ?_
 refine Yy (ZcvNa cc1_2 un_78 un_5) ?_
 refine Yy (Zxa 256 1 ae_156) ?_
 refine Yy (Zxb (256+(ob+2)) (ob+2) ae_89) ?_
 refine Ys (Zsu 5 (ob+2) sz_5) ?_
 refine Z4 ?_
 clear hvs84 hfs84 hvs86 hfs86 hpp89 hep89 hvp89 hcp89 hap89 hrp89 hpp92 hep92 hvp92 hcp92 hap92 hrp92
 refine YG ?_
 obtain⟨cc0_3,n98,p99,hcc0_3,hpp99,hep99,hvp99,hcp99, -,hap99,hrp99, -,hN100⟩:=hR95.getS hT hb Om Om
 refine Yy (Zf fo_150_2) ?_
 refine Yr (Zl 1 2 ag_96) ?_
 refine Yy (Zq p99 (ZshrNd s94.val 56) (by rw[←hpp99,hL])) ?_
 refine Yy (ZcvNa p99 un_96 un_5) ?_
 refine Yy (Zx (to+p99) p99 se_81) ?_
 refine Yy (Zf fo_115_0) ?_
 refine Yr (Zkc 1 p99 ag_78 rfl (nats_getE Om hep99)) ?_
 refine Y2 ?_
 obtain⟨cc1_3,n101,p102,hcc1_3,hpp102,hep102,hvp102,hcp102, -,hap102,hrp102, -,hN103⟩:=hR97.getS hT hb Om Om
 refine Yy (Zf fo_150_2) ?_
 refine Yr (Zl 0 2 ag_96) ?_
 refine Yy (Zq p102 (ZshrNd s96.val 56) (by rw[←hpp102,hL])) ?_
 refine Yy (ZcvNa p102 un_96 un_5) ?_
 refine Yy (Zx (to+p102) p102 se_81) ?_
 refine Yy (Zf fo_115_0) ?_
 refine Yr (Zkc 1 p102 ag_78 rfl (nats_getE Om hep102)) ?_
 refine Y2 ?_
 refine Yy (Zf fo_150_3) ?_
 refine Yr (Zl 1 3 ag_5) ?_
 refine Yy (Zq n98 (ZcvWa (n98+256*cc0_3) un_78 un_5)) ?_
 refine Yy (ZaddNa s94.rd n98) ?_
 refine Yy (Zf fo_150_3) ?_
 refine Ys (Zst 1 3 sz_5) ?_
 refine Y2 ?_
 refine Yy (Zf fo_150_2) ?_
 refine Yr (Zl 1 2 ag_96) ?_
 refine Yy (Zq n98 (ZandNb (n98+256*cc0_3) 63) (and63e Om)) ?_
 refine Yy (ZshlWd s94.val n98) ?_
 refine Yy (Zf fo_150_2) ?_
 refine Ys (Zst 1 2 sz_96) ?_
 refine Z4 ?_
 obtain⟨s104,hR105,hzs104,hXs104,hYs104⟩:=RdT.folded (X:=s94.val*2^n98%18446744073709551616) (Y:=s94.rd+n98) hN100 Om rfl rfl Om
 refine G.lists (l':=[⟨b1,4,[Vs bi (so+(k+st1)) ln1 (cap-st1),Vd s96.off,Vd s96.val,Va s96.rd],none⟩,⟨b1,0,[Vs bi (so+(k+6)) ln0 (cap-6),Vd s104.off,Vd s104.val,Va s104.rd],none⟩,⟨b1,8,[Vs bi (so+(k+st2)) ln2 (cap-st2),Vd s2.off,Vd s2.val,Va s2.rd],none⟩,⟨b1,12,[Vs bi (so+(k+st3)) ln3 (cap-st3),Vd s3.off,Vd s3.val,Va s3.rd],none⟩,⟨b5,0,(nats .u8 (((y0.set ob cc0_0).set (ob+1) cc0_1).set (ob+2) cc0_2)),none⟩,⟨b5,256,(nats .u8 (((y1.set ob cc1_0).set (ob+1) cc1_1).set (ob+2) cc1_2)),none⟩,⟨b5,512,(nats .u8 y2),none⟩,⟨b5,768,(nats .u8 y3),none⟩,⟨bd,0,(nats .u8 ds),none⟩]) (by rw[←hXs104, ←hYs104, ←hzs104];first|done|rfl) ?_
 have hks104:=hR105.pos.ok
 have hvs104:=hks104.val
 have hfs104:s104.rd≤64:=Om
 clear hXs104 hYs104 hzs104
 refine YG ?_
 refine Yy (Zf fo_150_3) ?_
 refine Yr (Zl 0 3 ag_5) ?_
 refine Yy (Zq n101 (ZcvWa (n101+256*cc1_3) un_78 un_5)) ?_
 refine Yy (ZaddNa s96.rd n101) ?_
 refine Yy (Zf fo_150_3) ?_
 refine Ys (Zst 0 3 sz_5) ?_
 refine Y2 ?_
 refine Yy (Zf fo_150_2) ?_
 refine Yr (Zl 0 2 ag_96) ?_
 refine Yy (Zq n101 (ZandNb (n101+256*cc1_3) 63) (and63e Om)) ?_
 refine Yy (ZshlWd s96.val n101) ?_
 refine Yy (Zf fo_150_2) ?_
 refine Ys (Zst 0 2 sz_96) ?_
 refine Z4 ?_
 obtain⟨s106,hR107,hzs106,hXs106,hYs106⟩:=RdT.folded (X:=s96.val*2^n101%18446744073709551616) (Y:=s96.rd+n101) hN103 Om rfl rfl Om
 refine G.lists (l':=[⟨b1,4,[Vs bi (so+(k+st1)) ln1 (cap-st1),Vd s106.off,Vd s106.val,Va s106.rd],none⟩,⟨b1,0,[Vs bi (so+(k+6)) ln0 (cap-6),Vd s104.off,Vd s104.val,Va s104.rd],none⟩,⟨b1,8,[Vs bi (so+(k+st2)) ln2 (cap-st2),Vd s2.off,Vd s2.val,Va s2.rd],none⟩,⟨b1,12,[Vs bi (so+(k+st3)) ln3 (cap-st3),Vd s3.off,Vd s3.val,Va s3.rd],none⟩,⟨b5,0,(nats .u8 (((y0.set ob cc0_0).set (ob+1) cc0_1).set (ob+2) cc0_2)),none⟩,⟨b5,256,(nats .u8 (((y1.set ob cc1_0).set (ob+1) cc1_1).set (ob+2) cc1_2)),none⟩,⟨b5,512,(nats .u8 y2),none⟩,⟨b5,768,(nats .u8 y3),none⟩,⟨bd,0,(nats .u8 ds),none⟩]) (by rw[←hXs106, ←hYs106, ←hzs106];first|done|rfl) ?_
 have hks106:=hR107.pos.ok
 have hvs106:=hks106.val
 have hfs106:s106.rd≤64:=Om
 clear hXs106 hYs106 hzs106
 refine YG ?_
 refine Yy (ZaddNa ob 3) ?_
 refine Yy (Zq cc0_3 (ZshrNb (n98+256*cc0_3) 8)) ?_
 refine Yy (ZcvNa cc0_3 un_78 un_5) ?_
 refine Yy (Zxa 0 0 ae_156) ?_
 refine Yy (Zxb (ob+3) (ob+3) ae_89) ?_
 refine Ys (Zsu 4 (ob+3) sz_5) ?_
 refine Y1 ?_
 refine Yy (ZaddNa ob 3) ?_
 refine Yy (Zq cc1_3 (ZshrNb (n101+256*cc1_3) 8)) ?_
 refine Yy (ZcvNa cc1_3 un_78 un_5) ?_
 refine Yy (Zxa 256 1 ae_156) ?_
 refine Yy (Zxb (256+(ob+3)) (ob+3) ae_89) ?_
 refine Ys (Zsu 5 (ob+3) sz_5) ?_
 refine Z4 (G.seq ?_)
 clear hvs94 hfs94 hvs96 hfs96 hpp99 hep99 hvp99 hcp99 hap99 hrp99 hpp102 hep102 hvp102 hcp102 hap102 hrp102 hvs104 hfs104 hvs106 hfs106
 refine YG ?_
 refine Yy (Zxa 8 2 ae_151) ?_
 refine Y2 ?_
 refine Yy (Zxa 12 3 ae_151) ?_
 refine Y2 ?_
 refine Zcp [2] [10] (Con.some' (fun s'=>RdT xs (k+st2) ln2 cd S s' (sub text (ev*2+n) (ev-n))∧s'.rd≤32∧s2.off≤s'.off+4∧s'.off≤s2.off) (c_fillFast_Bytes bi so shi xs (k+st2) ln2 (cap-st2) Om Om Om b1 8 none s2 Oa Oa Om Om) (RdT.fillFast hR2 Oa Om)) rfl ?_
 rintro _ _ ⟨rfl,s108,⟨hR109,hfs108, -, -⟩,rfl⟩
 have hks108:=hR109.pos.ok
 have hvs108:=hks108.val
 refine Y2 ?_
 refine Zcp [3] [10] (Con.some' (fun s'=>RdT xs (k+st3) ln3 cd S s' (sub text (ev*3+n) (m3-n))∧s'.rd≤32∧s3.off≤s'.off+4∧s'.off≤s3.off) (c_fillFast_Bytes bi so shi xs (k+st3) ln3 (cap-st3) Om Om Om b1 12 none s3 Oa Oa Om Om) (RdT.fillFast hR3 Oa Om)) rfl ?_
 rintro _ _ ⟨rfl,s110,⟨hR111,hfs110, -, -⟩,rfl⟩
 have hks110:=hR111.pos.ok
 have hvs110:=hks110.val
 refine Y2 ?_
 obtain⟨cc2_0,n112,p113,hcc2_0,hpp113,hep113,hvp113,hcp113, -,hap113,hrp113, -,hN114⟩:=hR109.getS hT hb Om Om
 refine Yy (Zf fo_150_2) ?_
 refine Yr (Zl 1 2 ag_96) ?_
 refine Yy (Zq p113 (ZshrNd s108.val 56) (by rw[←hpp113,hL])) ?_
 refine Yy (ZcvNa p113 un_96 un_5) ?_
 refine Yy (Zx (to+p113) p113 se_81) ?_
 refine Yy (Zf fo_115_0) ?_
 refine Yr (Zkc 1 p113 ag_78 rfl (nats_getE Om hep113)) ?_
 refine Y2 ?_
 obtain⟨cc3_0,n115,p116,hcc3_0,hpp116,hep116,hvp116,hcp116, -,hap116,hrp116, -,hN117⟩:=hR111.getS hT hb Om Om
 refine Yy (Zf fo_150_2) ?_
 refine Yr (Zl 0 2 ag_96) ?_
 refine Yy (Zq p116 (ZshrNd s110.val 56) (by rw[←hpp116,hL])) ?_
 refine Yy (ZcvNa p116 un_96 un_5) ?_
 refine Yy (Zx (to+p116) p116 se_81) ?_
 refine Yy (Zf fo_115_0) ?_
 refine Yr (Zkc 1 p116 ag_78 rfl (nats_getE Om hep116)) ?_
 refine Y2 ?_
 refine Yy (Zf fo_150_3) ?_
 refine Yr (Zl 1 3 ag_5) ?_
 refine Yy (Zq n112 (ZcvWa (n112+256*cc2_0) un_78 un_5)) ?_
 refine Yy (ZaddNa s108.rd n112) ?_
 refine Yy (Zf fo_150_3) ?_
 refine Ys (Zst 1 3 sz_5) ?_
 refine Y2 ?_
 refine Yy (Zf fo_150_2) ?_
 refine Yr (Zl 1 2 ag_96) ?_
 refine Yy (Zq n112 (ZandNb (n112+256*cc2_0) 63) (and63e Om)) ?_
 refine Yy (ZshlWd s108.val n112) ?_
 refine Yy (Zf fo_150_2) ?_
 refine Ys (Zst 1 2 sz_96) ?_
 refine Z4 ?_
 obtain⟨s118,hR119,hzs118,hXs118,hYs118⟩:=RdT.folded (X:=s108.val*2^n112%18446744073709551616) (Y:=s108.rd+n112) hN114 Om rfl rfl Om
 refine G.lists (l':=[⟨b1,12,[Vs bi (so+(k+st3)) ln3 (cap-st3),Vd s110.off,Vd s110.val,Va s110.rd],none⟩,⟨b1,8,[Vs bi (so+(k+st2)) ln2 (cap-st2),Vd s118.off,Vd s118.val,Va s118.rd],none⟩,⟨b1,4,[Vs bi (so+(k+st1)) ln1 (cap-st1),Vd s106.off,Vd s106.val,Va s106.rd],none⟩,⟨b1,0,[Vs bi (so+(k+6)) ln0 (cap-6),Vd s104.off,Vd s104.val,Va s104.rd],none⟩,⟨b5,0,(nats .u8 ((((y0.set ob cc0_0).set (ob+1) cc0_1).set (ob+2) cc0_2).set (ob+3) cc0_3)),none⟩,⟨b5,256,(nats .u8 ((((y1.set ob cc1_0).set (ob+1) cc1_1).set (ob+2) cc1_2).set (ob+3) cc1_3)),none⟩,⟨b5,512,(nats .u8 y2),none⟩,⟨b5,768,(nats .u8 y3),none⟩,⟨bd,0,(nats .u8 ds),none⟩]) (by rw[←hXs118, ←hYs118, ←hzs118];first|done|rfl) ?_
 have hks118:=hR119.pos.ok
 have hvs118:=hks118.val
 have hfs118:s118.rd≤40:=Om
 clear hXs118 hYs118 hzs118
 refine YG ?_
 refine Yy (Zf fo_150_3) ?_
 refine Yr (Zl 0 3 ag_5) ?_
 refine Yy (Zq n115 (ZcvWa (n115+256*cc3_0) un_78 un_5)) ?_
 refine Yy (ZaddNa s110.rd n115) ?_
 refine Yy (Zf fo_150_3) ?_
 refine Ys (Zst 0 3 sz_5) ?_
 refine Y2 ?_
 refine Yy (Zf fo_150_2) ?_
 refine Yr (Zl 0 2 ag_96) ?_
 refine Yy (Zq n115 (ZandNb (n115+256*cc3_0) 63) (and63e Om)) ?_
 refine Yy (ZshlWd s110.val n115) ?_
 refine Yy (Zf fo_150_2) ?_
 refine Ys (Zst 0 2 sz_96) ?_
 refine Z4 ?_
 obtain⟨s120,hR121,hzs120,hXs120,hYs120⟩:=RdT.folded (X:=s110.val*2^n115%18446744073709551616) (Y:=s110.rd+n115) hN117 Om rfl rfl Om
 refine G.lists (l':=[⟨b1,12,[Vs bi (so+(k+st3)) ln3 (cap-st3),Vd s120.off,Vd s120.val,Va s120.rd],none⟩,⟨b1,8,[Vs bi (so+(k+st2)) ln2 (cap-st2),Vd s118.off,Vd s118.val,Va s118.rd],none⟩,⟨b1,4,[Vs bi (so+(k+st1)) ln1 (cap-st1),Vd s106.off,Vd s106.val,Va s106.rd],none⟩,⟨b1,0,[Vs bi (so+(k+6)) ln0 (cap-6),Vd s104.off,Vd s104.val,Va s104.rd],none⟩,⟨b5,0,(nats .u8 ((((y0.set ob cc0_0).set (ob+1) cc0_1).set (ob+2) cc0_2).set (ob+3) cc0_3)),none⟩,⟨b5,256,(nats .u8 ((((y1.set ob cc1_0).set (ob+1) cc1_1).set (ob+2) cc1_2).set (ob+3) cc1_3)),none⟩,⟨b5,512,(nats .u8 y2),none⟩,⟨b5,768,(nats .u8 y3),none⟩,⟨bd,0,(nats .u8 ds),none⟩]) (by rw[←hXs120, ←hYs120, ←hzs120];first|done|rfl) ?_
 have hks120:=hR121.pos.ok
 have hvs120:=hks120.val
 have hfs120:s120.rd≤40:=Om
 clear hXs120 hYs120 hzs120
 refine YG ?_
 refine Yy (Zq cc2_0 (ZshrNb (n112+256*cc2_0) 8)) ?_
 refine Yy (ZcvNa cc2_0 un_78 un_5) ?_
 refine Yy (Zxa 512 2 ae_156) ?_
 refine Yy (Zxb (512+ob) ob ae_89) ?_
 refine Ys (Zsu 6 ob sz_5) ?_
 refine Y2 ?_
 refine Yy (Zq cc3_0 (ZshrNb (n115+256*cc3_0) 8)) ?_
 refine Yy (ZcvNa cc3_0 un_78 un_5) ?_
 refine Yy (Zxa 768 3 ae_156) ?_
 refine Yy (Zxb (768+ob) ob ae_89) ?_
 refine Ys (Zsu 7 ob sz_5) ?_
 refine Z4 ?_
 clear hvs108 hfs108 hvs110 hfs110 hpp113 hep113 hvp113 hcp113 hap113 hrp113 hpp116 hep116 hvp116 hcp116 hap116 hrp116
 refine YG ?_
 obtain⟨cc2_1,n122,p123,hcc2_1,hpp123,hep123,hvp123,hcp123, -,hap123,hrp123, -,hN124⟩:=hR119.getS hT hb Om Om
 refine Yy (Zf fo_150_2) ?_
 refine Yr (Zl 1 2 ag_96) ?_
 refine Yy (Zq p123 (ZshrNd s118.val 56) (by rw[←hpp123,hL])) ?_
 refine Yy (ZcvNa p123 un_96 un_5) ?_
 refine Yy (Zx (to+p123) p123 se_81) ?_
 refine Yy (Zf fo_115_0) ?_
 refine Yr (Zkc 1 p123 ag_78 rfl (nats_getE Om hep123)) ?_
 refine Y2 ?_
 obtain⟨cc3_1,n125,p126,hcc3_1,hpp126,hep126,hvp126,hcp126, -,hap126,hrp126, -,hN127⟩:=hR121.getS hT hb Om Om
 refine Yy (Zf fo_150_2) ?_
 refine Yr (Zl 0 2 ag_96) ?_
 refine Yy (Zq p126 (ZshrNd s120.val 56) (by rw[←hpp126,hL])) ?_
 refine Yy (ZcvNa p126 un_96 un_5) ?_
 refine Yy (Zx (to+p126) p126 se_81) ?_
 refine Yy (Zf fo_115_0) ?_
 refine Yr (Zkc 1 p126 ag_78 rfl (nats_getE Om hep126)) ?_
 refine Y2 ?_
 refine Yy (Zf fo_150_3) ?_
 refine Yr (Zl 1 3 ag_5) ?_
 refine Yy (Zq n122 (ZcvWa (n122+256*cc2_1) un_78 un_5)) ?_
 refine Yy (ZaddNa s118.rd n122) ?_
 refine Yy (Zf fo_150_3) ?_
 refine Ys (Zst 1 3 sz_5) ?_
 refine Y2 ?_
 refine Yy (Zf fo_150_2) ?_
 refine Yr (Zl 1 2 ag_96) ?_
 refine Yy (Zq n122 (ZandNb (n122+256*cc2_1) 63) (and63e Om)) ?_
 refine Yy (ZshlWd s118.val n122) ?_
 refine Yy (Zf fo_150_2) ?_
 refine Ys (Zst 1 2 sz_96) ?_
 refine Z4 ?_
 obtain⟨s128,hR129,hzs128,hXs128,hYs128⟩:=RdT.folded (X:=s118.val*2^n122%18446744073709551616) (Y:=s118.rd+n122) hN124 Om rfl rfl Om
 refine G.lists (l':=[⟨b1,12,[Vs bi (so+(k+st3)) ln3 (cap-st3),Vd s120.off,Vd s120.val,Va s120.rd],none⟩,⟨b1,8,[Vs bi (so+(k+st2)) ln2 (cap-st2),Vd s128.off,Vd s128.val,Va s128.rd],none⟩,⟨b1,4,[Vs bi (so+(k+st1)) ln1 (cap-st1),Vd s106.off,Vd s106.val,Va s106.rd],none⟩,⟨b1,0,[Vs bi (so+(k+6)) ln0 (cap-6),Vd s104.off,Vd s104.val,Va s104.rd],none⟩,⟨b5,0,(nats .u8 ((((y0.set ob cc0_0).set (ob+1) cc0_1).set (ob+2) cc0_2).set (ob+3) cc0_3)),none⟩,⟨b5,256,(nats .u8 ((((y1.set ob cc1_0).set (ob+1) cc1_1).set (ob+2) cc1_2).set (ob+3) cc1_3)),none⟩,⟨b5,512,(nats .u8 (y2.set ob cc2_0)),none⟩,⟨b5,768,(nats .u8 (y3.set ob cc3_0)),none⟩,⟨bd,0,(nats .u8 ds),none⟩]) (by rw[←hXs128, ←hYs128, ←hzs128];first|done|rfl) ?_
 have hks128:=hR129.pos.ok
 have hvs128:=hks128.val
 have hfs128:s128.rd≤48:=Om
 clear hXs128 hYs128 hzs128
 refine YG ?_
 refine Yy (Zf fo_150_3) ?_
 refine Yr (Zl 0 3 ag_5) ?_
 refine Yy (Zq n125 (ZcvWa (n125+256*cc3_1) un_78 un_5)) ?_
 refine Yy (ZaddNa s120.rd n125) ?_
 refine Yy (Zf fo_150_3) ?_
 refine Ys (Zst 0 3 sz_5) ?_
 refine Y2 ?_
 refine Yy (Zf fo_150_2) ?_
 refine Yr (Zl 0 2 ag_96) ?_
 refine Yy (Zq n125 (ZandNb (n125+256*cc3_1) 63) (and63e Om)) ?_
 refine Yy (ZshlWd s120.val n125) ?_
 refine Yy (Zf fo_150_2) ?_
 refine Ys (Zst 0 2 sz_96) ?_
 refine Z4 ?_
 obtain⟨s130,hR131,hzs130,hXs130,hYs130⟩:=RdT.folded (X:=s120.val*2^n125%18446744073709551616) (Y:=s120.rd+n125) hN127 Om rfl rfl Om
 refine G.lists (l':=[⟨b1,12,[Vs bi (so+(k+st3)) ln3 (cap-st3),Vd s130.off,Vd s130.val,Va s130.rd],none⟩,⟨b1,8,[Vs bi (so+(k+st2)) ln2 (cap-st2),Vd s128.off,Vd s128.val,Va s128.rd],none⟩,⟨b1,4,[Vs bi (so+(k+st1)) ln1 (cap-st1),Vd s106.off,Vd s106.val,Va s106.rd],none⟩,⟨b1,0,[Vs bi (so+(k+6)) ln0 (cap-6),Vd s104.off,Vd s104.val,Va s104.rd],none⟩,⟨b5,0,(nats .u8 ((((y0.set ob cc0_0).set (ob+1) cc0_1).set (ob+2) cc0_2).set (ob+3) cc0_3)),none⟩,⟨b5,256,(nats .u8 ((((y1.set ob cc1_0).set (ob+1) cc1_1).set (ob+2) cc1_2).set (ob+3) cc1_3)),none⟩,⟨b5,512,(nats .u8 (y2.set ob cc2_0)),none⟩,⟨b5,768,(nats .u8 (y3.set ob cc3_0)),none⟩,⟨bd,0,(nats .u8 ds),none⟩]) (by rw[←hXs130, ←hYs130, ←hzs130];first|done|rfl) ?_
 have hks130:=hR131.pos.ok
 have hvs130:=hks130.val
 have hfs130:s130.rd≤48:=Om
 clear hXs130 hYs130 hzs130
 refine YG ?_
 refine Yy (ZaddNa ob 1) ?_
 refine Yy (Zq cc2_1 (ZshrNb (n122+256*cc2_1) 8)) ?_
 refine Yy (ZcvNa cc2_1 un_78 un_5) ?_
 refine Yy (Zxa 512 2 ae_156) ?_
 refine Yy (Zxb (512+(ob+1)) (ob+1) ae_89) ?_
 refine Ys (Zsu 6 (ob+1) sz_5) ?_
 refine Y2 ?_
 refine Yy (ZaddNa ob 1) ?_
 refine Yy (Zq cc3_1 (ZshrNb (n125+256*cc3_1) 8)) ?_
 refine Yy (ZcvNa cc3_1 un_78 un_5) ?_
 refine Yy (Zxa 768 3 ae_156) ?_
 refine Yy (Zxb (768+(ob+1)) (ob+1) ae_89) ?_
 refine Ys (Zsu 7 (ob+1) sz_5) ?_
 refine Z4 ?_
 clear hvs118 hfs118 hvs120 hfs120 hpp123 hep123 hvp123 hcp123 hap123 hrp123 hpp126 hep126 hvp126 hcp126 hap126 hrp126
 refine YG ?_
 obtain⟨cc2_2,n132,p133,hcc2_2,hpp133,hep133,hvp133,hcp133, -,hap133,hrp133, -,hN134⟩:=hR129.getS hT hb Om Om
 refine Yy (Zf fo_150_2) ?_
 refine Yr (Zl 1 2 ag_96) ?_
 refine Yy (Zq p133 (ZshrNd s128.val 56) (by rw[←hpp133,hL])) ?_
 refine Yy (ZcvNa p133 un_96 un_5) ?_
 refine Yy (Zx (to+p133) p133 se_81) ?_
 refine Yy (Zf fo_115_0) ?_
 refine Yr (Zkc 1 p133 ag_78 rfl (nats_getE Om hep133)) ?_
 refine Y2 ?_
 obtain⟨cc3_2,n135,p136,hcc3_2,hpp136,hep136,hvp136,hcp136, -,hap136,hrp136, -,hN137⟩:=hR131.getS hT hb Om Om
 refine Yy (Zf fo_150_2) ?_
 refine Yr (Zl 0 2 ag_96) ?_
 refine Yy (Zq p136 (ZshrNd s130.val 56) (by rw[←hpp136,hL])) ?_
 refine Yy (ZcvNa p136 un_96 un_5) ?_
 refine Yy (Zx (to+p136) p136 se_81) ?_
 refine Yy (Zf fo_115_0) ?_
 refine Yr (Zkc 1 p136 ag_78 rfl (nats_getE Om hep136)) ?_
 refine Y2 ?_
 refine Yy (Zf fo_150_3) ?_
 refine Yr (Zl 1 3 ag_5) ?_
 refine Yy (Zq n132 (ZcvWa (n132+256*cc2_2) un_78 un_5)) ?_
 refine Yy (ZaddNa s128.rd n132) ?_
 refine Yy (Zf fo_150_3) ?_
 refine Ys (Zst 1 3 sz_5) ?_
 refine Y2 ?_
 refine Yy (Zf fo_150_2) ?_
 refine Yr (Zl 1 2 ag_96) ?_
 refine Yy (Zq n132 (ZandNb (n132+256*cc2_2) 63) (and63e Om)) ?_
 refine Yy (ZshlWd s128.val n132) ?_
 refine Yy (Zf fo_150_2) ?_
 refine Ys (Zst 1 2 sz_96) ?_
 refine Z4 ?_
 obtain⟨s138,hR139,hzs138,hXs138,hYs138⟩:=RdT.folded (X:=s128.val*2^n132%18446744073709551616) (Y:=s128.rd+n132) hN134 Om rfl rfl Om
 refine G.lists (l':=[⟨b1,12,[Vs bi (so+(k+st3)) ln3 (cap-st3),Vd s130.off,Vd s130.val,Va s130.rd],none⟩,⟨b1,8,[Vs bi (so+(k+st2)) ln2 (cap-st2),Vd s138.off,Vd s138.val,Va s138.rd],none⟩,⟨b1,4,[Vs bi (so+(k+st1)) ln1 (cap-st1),Vd s106.off,Vd s106.val,Va s106.rd],none⟩,⟨b1,0,[Vs bi (so+(k+6)) ln0 (cap-6),Vd s104.off,Vd s104.val,Va s104.rd],none⟩,⟨b5,0,(nats .u8 ((((y0.set ob cc0_0).set (ob+1) cc0_1).set (ob+2) cc0_2).set (ob+3) cc0_3)),none⟩,⟨b5,256,(nats .u8 ((((y1.set ob cc1_0).set (ob+1) cc1_1).set (ob+2) cc1_2).set (ob+3) cc1_3)),none⟩,⟨b5,512,(nats .u8 ((y2.set ob cc2_0).set (ob+1) cc2_1)),none⟩,⟨b5,768,(nats .u8 ((y3.set ob cc3_0).set (ob+1) cc3_1)),none⟩,⟨bd,0,(nats .u8 ds),none⟩]) (by rw[←hXs138, ←hYs138, ←hzs138];first|done|rfl) ?_
 have hks138:=hR139.pos.ok
 have hvs138:=hks138.val
 have hfs138:s138.rd≤56:=Om
 clear hXs138 hYs138 hzs138
 refine YG ?_
 refine Yy (Zf fo_150_3) ?_
 refine Yr (Zl 0 3 ag_5) ?_
 refine Yy (Zq n135 (ZcvWa (n135+256*cc3_2) un_78 un_5)) ?_
 refine Yy (ZaddNa s130.rd n135) ?_
 refine Yy (Zf fo_150_3) ?_
 refine Ys (Zst 0 3 sz_5) ?_
 refine Y2 ?_
 refine Yy (Zf fo_150_2) ?_
 refine Yr (Zl 0 2 ag_96) ?_
 refine Yy (Zq n135 (ZandNb (n135+256*cc3_2) 63) (and63e Om)) ?_
 refine Yy (ZshlWd s130.val n135) ?_
 refine Yy (Zf fo_150_2) ?_
 refine Ys (Zst 0 2 sz_96) ?_
 refine Z4 ?_
 obtain⟨s140,hR141,hzs140,hXs140,hYs140⟩:=RdT.folded (X:=s130.val*2^n135%18446744073709551616) (Y:=s130.rd+n135) hN137 Om rfl rfl Om
 refine G.lists (l':=[⟨b1,12,[Vs bi (so+(k+st3)) ln3 (cap-st3),Vd s140.off,Vd s140.val,Va s140.rd],none⟩,⟨b1,8,[Vs bi (so+(k+st2)) ln2 (cap-st2),Vd s138.off,Vd s138.val,Va s138.rd],none⟩,⟨b1,4,[Vs bi (so+(k+st1)) ln1 (cap-st1),Vd s106.off,Vd s106.val,Va s106.rd],none⟩,⟨b1,0,[Vs bi (so+(k+6)) ln0 (cap-6),Vd s104.off,Vd s104.val,Va s104.rd],none⟩,⟨b5,0,(nats .u8 ((((y0.set ob cc0_0).set (ob+1) cc0_1).set (ob+2) cc0_2).set (ob+3) cc0_3)),none⟩,⟨b5,256,(nats .u8 ((((y1.set ob cc1_0).set (ob+1) cc1_1).set (ob+2) cc1_2).set (ob+3) cc1_3)),none⟩,⟨b5,512,(nats .u8 ((y2.set ob cc2_0).set (ob+1) cc2_1)),none⟩,⟨b5,768,(nats .u8 ((y3.set ob cc3_0).set (ob+1) cc3_1)),none⟩,⟨bd,0,(nats .u8 ds),none⟩]) (by rw[←hXs140, ←hYs140, ←hzs140];first|done|rfl) ?_
 have hks140:=hR141.pos.ok
 have hvs140:=hks140.val
 have hfs140:s140.rd≤56:=Om
 clear hXs140 hYs140 hzs140
 refine YG ?_
 refine Yy (ZaddNa ob 2) ?_
 refine Yy (Zq cc2_2 (ZshrNb (n132+256*cc2_2) 8)) ?_
 refine Yy (ZcvNa cc2_2 un_78 un_5) ?_
 refine Yy (Zxa 512 2 ae_156) ?_
 refine Yy (Zxb (512+(ob+2)) (ob+2) ae_89) ?_
 refine Ys (Zsu 6 (ob+2) sz_5) ?_
 refine Y2 ?_
 refine Yy (ZaddNa ob 2) ?_
 refine Yy (Zq cc3_2 (ZshrNb (n135+256*cc3_2) 8)) ?_
 refine Yy (ZcvNa cc3_2 un_78 un_5) ?_
 refine Yy (Zxa 768 3 ae_156) ?_
 refine Yy (Zxb (768+(ob+2)) (ob+2) ae_89) ?_
 refine Ys (Zsu 7 (ob+2) sz_5) ?_
 refine Z4 ?_
 clear hvs128 hfs128 hvs130 hfs130 hpp133 hep133 hvp133 hcp133 hap133 hrp133 hpp136 hep136 hvp136 hcp136 hap136 hrp136
 refine YG ?_
 obtain⟨cc2_3,n142,p143,hcc2_3,hpp143,hep143,hvp143,hcp143, -,hap143,hrp143, -,hN144⟩:=hR139.getS hT hb Om Om
 refine Yy (Zf fo_150_2) ?_
 refine Yr (Zl 1 2 ag_96) ?_
 refine Yy (Zq p143 (ZshrNd s138.val 56) (by rw[←hpp143,hL])) ?_
 refine Yy (ZcvNa p143 un_96 un_5) ?_
 refine Yy (Zx (to+p143) p143 se_81) ?_
 refine Yy (Zf fo_115_0) ?_
 refine Yr (Zkc 1 p143 ag_78 rfl (nats_getE Om hep143)) ?_
 refine Y2 ?_
 obtain⟨cc3_3,n145,p146,hcc3_3,hpp146,hep146,hvp146,hcp146, -,hap146,hrp146, -,hN147⟩:=hR141.getS hT hb Om Om
 refine Yy (Zf fo_150_2) ?_
 refine Yr (Zl 0 2 ag_96) ?_
 refine Yy (Zq p146 (ZshrNd s140.val 56) (by rw[←hpp146,hL])) ?_
 refine Yy (ZcvNa p146 un_96 un_5) ?_
 refine Yy (Zx (to+p146) p146 se_81) ?_
 refine Yy (Zf fo_115_0) ?_
 refine Yr (Zkc 1 p146 ag_78 rfl (nats_getE Om hep146)) ?_
 refine Y2 ?_
 refine Yy (Zf fo_150_3) ?_
 refine Yr (Zl 1 3 ag_5) ?_
 refine Yy (Zq n142 (ZcvWa (n142+256*cc2_3) un_78 un_5)) ?_
 refine Yy (ZaddNa s138.rd n142) ?_
 refine Yy (Zf fo_150_3) ?_
 refine Ys (Zst 1 3 sz_5) ?_
 refine Y2 ?_
 refine Yy (Zf fo_150_2) ?_
 refine Yr (Zl 1 2 ag_96) ?_
 refine Yy (Zq n142 (ZandNb (n142+256*cc2_3) 63) (and63e Om)) ?_
 refine Yy (ZshlWd s138.val n142) ?_
 refine Yy (Zf fo_150_2) ?_
 refine Ys (Zst 1 2 sz_96) ?_
 refine Z4 ?_
 obtain⟨s148,hR149,hzs148,hXs148,hYs148⟩:=RdT.folded (X:=s138.val*2^n142%18446744073709551616) (Y:=s138.rd+n142) hN144 Om rfl rfl Om
 refine G.lists (l':=[⟨b1,12,[Vs bi (so+(k+st3)) ln3 (cap-st3),Vd s140.off,Vd s140.val,Va s140.rd],none⟩,⟨b1,8,[Vs bi (so+(k+st2)) ln2 (cap-st2),Vd s148.off,Vd s148.val,Va s148.rd],none⟩,⟨b1,4,[Vs bi (so+(k+st1)) ln1 (cap-st1),Vd s106.off,Vd s106.val,Va s106.rd],none⟩,⟨b1,0,[Vs bi (so+(k+6)) ln0 (cap-6),Vd s104.off,Vd s104.val,Va s104.rd],none⟩,⟨b5,0,(nats .u8 ((((y0.set ob cc0_0).set (ob+1) cc0_1).set (ob+2) cc0_2).set (ob+3) cc0_3)),none⟩,⟨b5,256,(nats .u8 ((((y1.set ob cc1_0).set (ob+1) cc1_1).set (ob+2) cc1_2).set (ob+3) cc1_3)),none⟩,⟨b5,512,(nats .u8 (((y2.set ob cc2_0).set (ob+1) cc2_1).set (ob+2) cc2_2)),none⟩,⟨b5,768,(nats .u8 (((y3.set ob cc3_0).set (ob+1) cc3_1).set (ob+2) cc3_2)),none⟩,⟨bd,0,(nats .u8 ds),none⟩]) (by rw[←hXs148, ←hYs148, ←hzs148];first|done|rfl) ?_
 have hks148:=hR149.pos.ok
 have hvs148:=hks148.val
 have hfs148:s148.rd≤64:=Om
 clear hXs148 hYs148 hzs148
 refine YG ?_
 refine Yy (Zf fo_150_3) ?_
 refine Yr (Zl 0 3 ag_5) ?_
 refine Yy (Zq n145 (ZcvWa (n145+256*cc3_3) un_78 un_5)) ?_
 refine Yy (ZaddNa s140.rd n145) ?_
 refine Yy (Zf fo_150_3) ?_
 refine Ys (Zst 0 3 sz_5) ?_
 refine Y2 ?_
 refine Yy (Zf fo_150_2) ?_
 refine Yr (Zl 0 2 ag_96) ?_
 refine Yy (Zq n145 (ZandNb (n145+256*cc3_3) 63) (and63e Om)) ?_
 refine Yy (ZshlWd s140.val n145) ?_
 refine Yy (Zf fo_150_2) ?_
 refine Ys (Zst 0 2 sz_96) ?_
 refine Z4 ?_
 obtain⟨s150,hR151,hzs150,hXs150,hYs150⟩:=RdT.folded (X:=s140.val*2^n145%18446744073709551616) (Y:=s140.rd+n145) hN147 Om rfl rfl Om
 refine G.lists (l':=[⟨b1,12,[Vs bi (so+(k+st3)) ln3 (cap-st3),Vd s150.off,Vd s150.val,Va s150.rd],none⟩,⟨b1,8,[Vs bi (so+(k+st2)) ln2 (cap-st2),Vd s148.off,Vd s148.val,Va s148.rd],none⟩,⟨b1,4,[Vs bi (so+(k+st1)) ln1 (cap-st1),Vd s106.off,Vd s106.val,Va s106.rd],none⟩,⟨b1,0,[Vs bi (so+(k+6)) ln0 (cap-6),Vd s104.off,Vd s104.val,Va s104.rd],none⟩,⟨b5,0,(nats .u8 ((((y0.set ob cc0_0).set (ob+1) cc0_1).set (ob+2) cc0_2).set (ob+3) cc0_3)),none⟩,⟨b5,256,(nats .u8 ((((y1.set ob cc1_0).set (ob+1) cc1_1).set (ob+2) cc1_2).set (ob+3) cc1_3)),none⟩,⟨b5,512,(nats .u8 (((y2.set ob cc2_0).set (ob+1) cc2_1).set (ob+2) cc2_2)),none⟩,⟨b5,768,(nats .u8 (((y3.set ob cc3_0).set (ob+1) cc3_1).set (ob+2) cc3_2)),none⟩,⟨bd,0,(nats .u8 ds),none⟩]) (by rw[←hXs150, ←hYs150, ←hzs150];first|done|rfl) ?_
 have hks150:=hR151.pos.ok
 have hvs150:=hks150.val
 have hfs150:s150.rd≤64:=Om
 clear hXs150 hYs150 hzs150
 refine YG ?_
 refine Yy (ZaddNa ob 3) ?_
 refine Yy (Zq cc2_3 (ZshrNb (n142+256*cc2_3) 8)) ?_
 refine Yy (ZcvNa cc2_3 un_78 un_5) ?_
 refine Yy (Zxa 512 2 ae_156) ?_
 refine Yy (Zxb (512+(ob+3)) (ob+3) ae_89) ?_
 refine Ys (Zsu 6 (ob+3) sz_5) ?_
 refine Y1 ?_
 refine Yy (ZaddNa ob 3) ?_
 refine Yy (Zq cc3_3 (ZshrNb (n145+256*cc3_3) 8)) ?_
 refine Yy (ZcvNa cc3_3 un_78 un_5) ?_
 refine Yy (Zxa 768 3 ae_156) ?_
 refine Yy (Zxb (768+(ob+3)) (ob+3) ae_89) ?_
 refine Ys (Zsu 7 (ob+3) sz_5) ?_
 refine Z4 ?_
 clear hvs138 hfs138 hvs140 hfs140 hpp143 hep143 hvp143 hcp143 hap143 hrp143 hpp146 hep146 hvp146 hcp146 hap146 hrp146 hvs148 hfs148 hvs150 hfs150
 have hW0_0:Row (y0.set ob cc0_0) text (ev*0+pn) (ob+1):=Row.set hy0.2 (by have:=hy0.1;omega) rfl (hcc0_0.trans (congrArg (fun z=>text.getD z 0) Om))
 have hV0_0:(y0.set ob cc0_0).length=256:=by rw[List.length_set];exact hy0.1
 have hW0_1:Row ((y0.set ob cc0_0).set (ob+1) cc0_1) text (ev*0+pn) (ob+2):=Row.set hW0_0 (by have:=hV0_0;omega) rfl (hcc0_1.trans (congrArg (fun z=>text.getD z 0) Om))
 have hV0_1:((y0.set ob cc0_0).set (ob+1) cc0_1).length=256:=by rw[List.length_set];exact hV0_0
 have hW0_2:Row (((y0.set ob cc0_0).set (ob+1) cc0_1).set (ob+2) cc0_2) text (ev*0+pn) (ob+3):=Row.set hW0_1 (by have:=hV0_1;omega) rfl (hcc0_2.trans (congrArg (fun z=>text.getD z 0) Om))
 have hV0_2:(((y0.set ob cc0_0).set (ob+1) cc0_1).set (ob+2) cc0_2).length=256:=by rw[List.length_set];exact hV0_1
 have hW0_3:Row ((((y0.set ob cc0_0).set (ob+1) cc0_1).set (ob+2) cc0_2).set (ob+3) cc0_3) text (ev*0+pn) (ob+4):=Row.set hW0_2 (by have:=hV0_2;omega) rfl (hcc0_3.trans (congrArg (fun z=>text.getD z 0) Om))
 have hV0_3:((((y0.set ob cc0_0).set (ob+1) cc0_1).set (ob+2) cc0_2).set (ob+3) cc0_3).length=256:=by rw[List.length_set];exact hV0_2
 clear hcc0_0 hcc0_1 hcc0_2 hcc0_3
 obtain⟨z0,hz0⟩:∃z,z=((((y0.set ob cc0_0).set (ob+1) cc0_1).set (ob+2) cc0_2).set (ob+3) cc0_3):=⟨_,rfl⟩
 rw[←hz0] at hW0_3 hV0_3
 rw[←hz0]
 clear hz0 hy0 hyl0 hW0_0 hV0_0 hW0_1 hV0_1 hW0_2 hV0_2
 have hW0:=hW0_3
 have hV0:=hV0_3
 clear hW0_3 hV0_3
 have hW1_0:Row (y1.set ob cc1_0) text (ev*1+pn) (ob+1):=Row.set hy1.2 (by have:=hy1.1;omega) rfl (hcc1_0.trans (congrArg (fun z=>text.getD z 0) Om))
 have hV1_0:(y1.set ob cc1_0).length=256:=by rw[List.length_set];exact hy1.1
 have hW1_1:Row ((y1.set ob cc1_0).set (ob+1) cc1_1) text (ev*1+pn) (ob+2):=Row.set hW1_0 (by have:=hV1_0;omega) rfl (hcc1_1.trans (congrArg (fun z=>text.getD z 0) Om))
 have hV1_1:((y1.set ob cc1_0).set (ob+1) cc1_1).length=256:=by rw[List.length_set];exact hV1_0
 have hW1_2:Row (((y1.set ob cc1_0).set (ob+1) cc1_1).set (ob+2) cc1_2) text (ev*1+pn) (ob+3):=Row.set hW1_1 (by have:=hV1_1;omega) rfl (hcc1_2.trans (congrArg (fun z=>text.getD z 0) Om))
 have hV1_2:(((y1.set ob cc1_0).set (ob+1) cc1_1).set (ob+2) cc1_2).length=256:=by rw[List.length_set];exact hV1_1
 have hW1_3:Row ((((y1.set ob cc1_0).set (ob+1) cc1_1).set (ob+2) cc1_2).set (ob+3) cc1_3) text (ev*1+pn) (ob+4):=Row.set hW1_2 (by have:=hV1_2;omega) rfl (hcc1_3.trans (congrArg (fun z=>text.getD z 0) Om))
 have hV1_3:((((y1.set ob cc1_0).set (ob+1) cc1_1).set (ob+2) cc1_2).set (ob+3) cc1_3).length=256:=by rw[List.length_set];exact hV1_2
 clear hcc1_0 hcc1_1 hcc1_2 hcc1_3
 obtain⟨z1,hz1⟩:∃z,z=((((y1.set ob cc1_0).set (ob+1) cc1_1).set (ob+2) cc1_2).set (ob+3) cc1_3):=⟨_,rfl⟩
 rw[←hz1] at hW1_3 hV1_3
 rw[←hz1]
 clear hz1 hy1 hyl1 hW1_0 hV1_0 hW1_1 hV1_1 hW1_2 hV1_2
 have hW1:=hW1_3
 have hV1:=hV1_3
 clear hW1_3 hV1_3
 have hW2_0:Row (y2.set ob cc2_0) text (ev*2+pn) (ob+1):=Row.set hy2.2 (by have:=hy2.1;omega) rfl (hcc2_0.trans (congrArg (fun z=>text.getD z 0) Om))
 have hV2_0:(y2.set ob cc2_0).length=256:=by rw[List.length_set];exact hy2.1
 have hW2_1:Row ((y2.set ob cc2_0).set (ob+1) cc2_1) text (ev*2+pn) (ob+2):=Row.set hW2_0 (by have:=hV2_0;omega) rfl (hcc2_1.trans (congrArg (fun z=>text.getD z 0) Om))
 have hV2_1:((y2.set ob cc2_0).set (ob+1) cc2_1).length=256:=by rw[List.length_set];exact hV2_0
 have hW2_2:Row (((y2.set ob cc2_0).set (ob+1) cc2_1).set (ob+2) cc2_2) text (ev*2+pn) (ob+3):=Row.set hW2_1 (by have:=hV2_1;omega) rfl (hcc2_2.trans (congrArg (fun z=>text.getD z 0) Om))
 have hV2_2:(((y2.set ob cc2_0).set (ob+1) cc2_1).set (ob+2) cc2_2).length=256:=by rw[List.length_set];exact hV2_1
 have hW2_3:Row ((((y2.set ob cc2_0).set (ob+1) cc2_1).set (ob+2) cc2_2).set (ob+3) cc2_3) text (ev*2+pn) (ob+4):=Row.set hW2_2 (by have:=hV2_2;omega) rfl (hcc2_3.trans (congrArg (fun z=>text.getD z 0) Om))
 have hV2_3:((((y2.set ob cc2_0).set (ob+1) cc2_1).set (ob+2) cc2_2).set (ob+3) cc2_3).length=256:=by rw[List.length_set];exact hV2_2
 clear hcc2_0 hcc2_1 hcc2_2 hcc2_3
 obtain⟨z2,hz2⟩:∃z,z=((((y2.set ob cc2_0).set (ob+1) cc2_1).set (ob+2) cc2_2).set (ob+3) cc2_3):=⟨_,rfl⟩
 rw[←hz2] at hW2_3 hV2_3
 rw[←hz2]
 clear hz2 hy2 hyl2 hW2_0 hV2_0 hW2_1 hV2_1 hW2_2 hV2_2
 have hW2:=hW2_3
 have hV2:=hV2_3
 clear hW2_3 hV2_3
 have hW3_0:Row (y3.set ob cc3_0) text (ev*3+pn) (ob+1):=Row.set hy3.2 (by have:=hy3.1;omega) rfl (hcc3_0.trans (congrArg (fun z=>text.getD z 0) Om))
 have hV3_0:(y3.set ob cc3_0).length=256:=by rw[List.length_set];exact hy3.1
 have hW3_1:Row ((y3.set ob cc3_0).set (ob+1) cc3_1) text (ev*3+pn) (ob+2):=Row.set hW3_0 (by have:=hV3_0;omega) rfl (hcc3_1.trans (congrArg (fun z=>text.getD z 0) Om))
 have hV3_1:((y3.set ob cc3_0).set (ob+1) cc3_1).length=256:=by rw[List.length_set];exact hV3_0
 have hW3_2:Row (((y3.set ob cc3_0).set (ob+1) cc3_1).set (ob+2) cc3_2) text (ev*3+pn) (ob+3):=Row.set hW3_1 (by have:=hV3_1;omega) rfl (hcc3_2.trans (congrArg (fun z=>text.getD z 0) Om))
 have hV3_2:(((y3.set ob cc3_0).set (ob+1) cc3_1).set (ob+2) cc3_2).length=256:=by rw[List.length_set];exact hV3_1
 have hW3_3:Row ((((y3.set ob cc3_0).set (ob+1) cc3_1).set (ob+2) cc3_2).set (ob+3) cc3_3) text (ev*3+pn) (ob+4):=Row.set hW3_2 (by have:=hV3_2;omega) rfl (hcc3_3.trans (congrArg (fun z=>text.getD z 0) Om))
 have hV3_3:((((y3.set ob cc3_0).set (ob+1) cc3_1).set (ob+2) cc3_2).set (ob+3) cc3_3).length=256:=by rw[List.length_set];exact hV3_2
 clear hcc3_0 hcc3_1 hcc3_2 hcc3_3
 obtain⟨z3,hz3⟩:∃z,z=((((y3.set ob cc3_0).set (ob+1) cc3_1).set (ob+2) cc3_2).set (ob+3) cc3_3):=⟨_,rfl⟩
 rw[←hz3] at hW3_3 hV3_3
 rw[←hz3]
 clear hz3 hy3 hyl3 hW3_0 hV3_0 hW3_1 hV3_1 hW3_2 hV3_2
 have hW3:=hW3_3
 have hV3:=hV3_3
 clear hW3_3 hV3_3
 refine YG ?_
 refine Yy (ZaddWa ob 4) ?_
 refine Y2 ?_
 refine Yy (Zeq ((ob+4)%256) 0) ?_
 refine Zn ?_
 refine Zc (fun h152=>?_) (fun h152=>?_)
 refine Y6 ?_
 refine Yy (Zgt 256 ev) ?_
 refine Zn ?_
 refine Zc (fun h153=>?_) (fun h153=>?_)
 exfalso;omega
 refine Z7 (Y6 ?_)
 refine Yy (Zlen un_22) ?_
 refine Yy (ZsubNh (text.length-pn) 256) ?_
 refine Yy (ZmulNh ev 3) ?_
 refine Yy (Zlt ((text.length-pn)-256) (ev*3)) ?_
 refine Zn ?_
 refine Zc (fun h154=>?_) (fun h154=>?_)
 exfalso;omega
 refine Z7 (G.seq ?_)
 have hX0:=(⟨hW0.at_eq rfl Om,hV0⟩:Row z0 text (ev*0+pn) 256∧(z0).length=256)
 have hX1:=(⟨hW1.at_eq rfl Om,hV1⟩:Row z1 text (ev*1+pn) 256∧(z1).length=256)
 have hX2:=(⟨hW2.at_eq rfl Om,hV2⟩:Row z2 text (ev*2+pn) 256∧(z2).length=256)
 have hX3:=(⟨hW3.at_eq rfl Om,hV3⟩:Row z3 text (ev*3+pn) 256∧(z3).length=256)
 obtain⟨dw0,hdw0⟩:∃z,z=splN ds pn z0:=⟨_,rfl⟩
 have hS0:dw0.length=text.length:=by rw[hdw0,splN_length (by have:=(hX0).2;omega)];exact hds
 have hE0_0:Got dw0 text (ev*0) (pn+256):=hdw0▸Got.more (ds:=ds) (j:=pn) hG0 hX0.1 ⟨Om,hX0.2,Om,Om⟩
 have hE0_1:Got dw0 text (ev*1) pn:=hdw0▸Got.keep (ds:=ds) (j:=pn) hG1 hX0.1 ⟨Om,hX0.2,Om⟩
 have hE0_2:Got dw0 text (ev*2) pn:=hdw0▸Got.keep (ds:=ds) (j:=pn) hG2 hX0.1 ⟨Om,hX0.2,Om⟩
 have hE0_3:Got dw0 text (ev*3) pn:=hdw0▸Got.keep (ds:=ds) (j:=pn) hG3 hX0.1 ⟨Om,hX0.2,Om⟩
 obtain⟨dw1,hdw1⟩:∃z,z=splN dw0 (pn+ev) z1:=⟨_,rfl⟩
 have hS1:dw1.length=text.length:=by rw[hdw1,splN_length (by have:=(hX1).2;omega)];exact hS0
 have hE1_0:Got dw1 text (ev*0) (pn+256):=hdw1▸Got.keep (ds:=dw0) (j:=pn+ev) hE0_0 hX1.1 ⟨Om,hX1.2,Om⟩
 have hE1_1:Got dw1 text (ev*1) (pn+256):=hdw1▸Got.more (ds:=dw0) (j:=pn+ev) hE0_1 hX1.1 ⟨Om,hX1.2,Om,Om⟩
 have hE1_2:Got dw1 text (ev*2) pn:=hdw1▸Got.keep (ds:=dw0) (j:=pn+ev) hE0_2 hX1.1 ⟨Om,hX1.2,Om⟩
 have hE1_3:Got dw1 text (ev*3) pn:=hdw1▸Got.keep (ds:=dw0) (j:=pn+ev) hE0_3 hX1.1 ⟨Om,hX1.2,Om⟩
 clear hE0_0 hE0_1 hE0_2 hE0_3
 obtain⟨dw2,hdw2⟩:∃z,z=splN dw1 (pn+(ev*2)) z2:=⟨_,rfl⟩
 have hS2:dw2.length=text.length:=by rw[hdw2,splN_length (by have:=(hX2).2;omega)];exact hS1
 have hE2_0:Got dw2 text (ev*0) (pn+256):=hdw2▸Got.keep (ds:=dw1) (j:=pn+(ev*2)) hE1_0 hX2.1 ⟨Om,hX2.2,Om⟩
 have hE2_1:Got dw2 text (ev*1) (pn+256):=hdw2▸Got.keep (ds:=dw1) (j:=pn+(ev*2)) hE1_1 hX2.1 ⟨Om,hX2.2,Om⟩
 have hE2_2:Got dw2 text (ev*2) (pn+256):=hdw2▸Got.more (ds:=dw1) (j:=pn+(ev*2)) hE1_2 hX2.1 ⟨Om,hX2.2,Om,Om⟩
 have hE2_3:Got dw2 text (ev*3) pn:=hdw2▸Got.keep (ds:=dw1) (j:=pn+(ev*2)) hE1_3 hX2.1 ⟨Om,hX2.2,Om⟩
 clear hE1_0 hE1_1 hE1_2 hE1_3
 obtain⟨dw3,hdw3⟩:∃z,z=splN dw2 (pn+(ev*3)) z3:=⟨_,rfl⟩
 have hS3:dw3.length=text.length:=by rw[hdw3,splN_length (by have:=(hX3).2;omega)];exact hS2
 have hE3_0:Got dw3 text (ev*0) (pn+256):=hdw3▸Got.keep (ds:=dw2) (j:=pn+(ev*3)) hE2_0 hX3.1 ⟨Om,hX3.2,Om⟩
 have hE3_1:Got dw3 text (ev*1) (pn+256):=hdw3▸Got.keep (ds:=dw2) (j:=pn+(ev*3)) hE2_1 hX3.1 ⟨Om,hX3.2,Om⟩
 have hE3_2:Got dw3 text (ev*2) (pn+256):=hdw3▸Got.keep (ds:=dw2) (j:=pn+(ev*3)) hE2_2 hX3.1 ⟨Om,hX3.2,Om⟩
 have hE3_3:Got dw3 text (ev*3) (pn+256):=hdw3▸Got.more (ds:=dw2) (j:=pn+(ev*3)) hE2_3 hX3.1 ⟨Om,hX3.2,Om,Om⟩
 clear hE2_0 hE2_1 hE2_2 hE2_3
 have hK0:=(hE3_0).at_eq rfl (show pn+256=pn+256 from rfl)
 have hK1:=(hE3_1).at_eq rfl (show pn+256=pn+256 from rfl)
 have hK2:=(hE3_2).at_eq rfl (show pn+256=pn+256 from rfl)
 have hK3:=(hE3_3).at_eq rfl (show pn+256=pn+256 from rfl)
 have hKl:=hS3
 refine Zg 128 [y_0,r_1,y_2,y_3,y_4,r_5,y_6,e_7] ?_
 refine Ypa ?_
 refine Ypr (OpY.toR (y_s2a rfl rfl un_89 Om)) ?_
 refine Ypy (Zxa 0 0 ae_156) ?_
 refine Ypr (r_lda 4 0 rfl rfl rfl ag_89 sz_89 rfl (nats_whole Ou) (by rw[nats_length];first|omega|(simp;omega))) ?_
 refine Zps (e_sta (vs:=nats .u8 z0) (cs':=nats .u8 (splN ds pn z0)) 8 pn rfl rfl rfl rfl sz_89 (by have h8:=(hX0).2;have h9:=hds;simp;omega) (nats_one _) (Nat.zero_add _).symm (by have h8:=(hX0).2;have h9:=hds;simp;omega) rfl (spl_nats _ _ _ (by have h8:=(hX0).2;have h9:=hds;simp;omega))) ?_
 rw[←hdw0]
 refine GP.nil (GQ.thenN (G.seq ?_))
 refine Zg 512 [y_0,y_1,y_2,r_3,y_4,y_5,y_6,r_7,y_8,e_9] ?_
 refine Ypa ?_
 refine Ypy (y_slL (q':=pn+ev) (lo:=ev) rfl rfl rfl se_22 Om Om) ?_
 refine Ypr (OpY.toR (y_s2a rfl rfl un_89 Om)) ?_
 refine Ypy (Zxa 256 1 ae_156) ?_
 refine Ypr (r_lda 5 0 rfl rfl rfl ag_89 sz_89 rfl (nats_whole Ou) (by rw[nats_length];first|omega|(simp;omega))) ?_
 refine Zps (e_sta (vs:=nats .u8 z1) (cs':=nats .u8 (splN dw0 (pn+ev) z1)) 8 (pn+ev) rfl rfl rfl rfl sz_89 (by have h8:=(hX1).2;have h9:=hS0;simp;omega) (nats_one _) (Nat.zero_add _).symm (by have h8:=(hX1).2;have h9:=hS0;simp;omega) rfl (spl_nats _ _ _ (by have h8:=(hX1).2;have h9:=hS0;simp;omega))) ?_
 rw[←hdw1]
 refine GP.nil (GQ.thenN (G.seq ?_))
 refine Zg 1024 [y_0,y_1,y_2,y_3,r_4,y_5,y_6,y_7,r_8,y_9,e_10] ?_
 refine Ypa ?_
 refine Ypy (ZmulNh ev 2) ?_
 refine Ypy (y_slL (q':=pn+(ev*2)) (lo:=ev*2) rfl rfl rfl se_22 Om Om) ?_
 refine Ypr (OpY.toR (y_s2a rfl rfl un_89 Om)) ?_
 refine Ypy (Zxa 512 2 ae_156) ?_
 refine Ypr (r_lda 6 0 rfl rfl rfl ag_89 sz_89 rfl (nats_whole Ou) (by rw[nats_length];first|omega|(simp;omega))) ?_
 refine Zps (e_sta (vs:=nats .u8 z2) (cs':=nats .u8 (splN dw1 (pn+(ev*2)) z2)) 8 (pn+(ev*2)) rfl rfl rfl rfl sz_89 (by have h8:=(hX2).2;have h9:=hS1;simp;omega) (nats_one _) (Nat.zero_add _).symm (by have h8:=(hX2).2;have h9:=hS1;simp;omega) rfl (spl_nats _ _ _ (by have h8:=(hX2).2;have h9:=hS1;simp;omega))) ?_
 rw[←hdw2]
 refine GP.nil (GQ.thenN (G.seq ?_))
 refine Zg 1024 [y_0,y_1,y_2,y_3,r_4,y_5,y_6,y_7,r_8,y_9,e_10] ?_
 refine Ypa ?_
 refine Ypy (ZmulNh ev 3) ?_
 refine Ypy (y_slL (q':=pn+(ev*3)) (lo:=ev*3) rfl rfl rfl se_22 Om Om) ?_
 refine Ypr (OpY.toR (y_s2a rfl rfl un_89 Om)) ?_
 refine Ypy (Zxa 768 3 ae_156) ?_
 refine Ypr (r_lda 7 0 rfl rfl rfl ag_89 sz_89 rfl (nats_whole Ou) (by rw[nats_length];first|omega|(simp;omega))) ?_
 refine Zps (e_sta (vs:=nats .u8 z3) (cs':=nats .u8 (splN dw2 (pn+(ev*3)) z3)) 8 (pn+(ev*3)) rfl rfl rfl rfl sz_89 (by have h8:=(hX3).2;have h9:=hS2;simp;omega) (nats_one _) (Nat.zero_add _).symm (by have h8:=(hX3).2;have h9:=hS2;simp;omega) rfl (spl_nats _ _ _ (by have h8:=(hX3).2;have h9:=hS2;simp;omega))) ?_
 rw[←hdw3]
 refine GP.nil (GQ.thenN (Y5 ?_))
 refine Yy (y_congr (y_slL (q':=pn+256) (lo:=256) rfl rfl rfl se_22 Om Om) (slice_eq (a:=text.length-pn-256) (a':=text.length-(pn+256)) (b:=text.length-pn-256) (b':=text.length-(pn+256)) Om Om)) ?_
 refine Y1 ?_
 refine Yy (Zq (4*(pn+256)) (ZaddNh (4*pn) 1024)) ?_
 refine GL.nil (GQ.blockN ?_)
 refine GQ.pick [3,2,1,0,0,0,0,0,0] rfl ?_
 exact Zb ⟨s104,s106,s148,s150,_,_,_,_,_,(n+4),(pn+256),_,rfl,hR105.at_eq Om Om,hR107.at_eq Om Om,hR149.at_eq Om Om,hR151.at_eq Om Om,⟨hV0,Row.zero.at_eq rfl Om⟩,⟨hV1,Row.zero.at_eq rfl Om⟩,⟨hV2,Row.zero.at_eq rfl Om⟩,⟨hV3,Row.zero.at_eq rfl Om⟩,hK0,hK1,hK2,hK3,hKl,⟨Om,Om,Om,Om⟩,rfl,rfl⟩ (hs:=rfl)
 refine G.skip (GQ.blockN ?_)
 refine GQ.pick [3,2,1,0,0,0,0,0,0] rfl ?_
 exact Zb ⟨s104,s106,s148,s150,_,_,_,_,ds,(n+4),pn,_,rfl,hR105.at_eq Om Om,hR107.at_eq Om Om,hR149.at_eq Om Om,hR151.at_eq Om Om,⟨hV0,hW0.at_eq rfl Om⟩,⟨hV1,hW1.at_eq rfl Om⟩,⟨hV2,hW2.at_eq rfl Om⟩,⟨hV3,hW3.at_eq rfl Om⟩,hG0,hG1,hG2,hG3,hds,⟨Om,Om,Om,Om⟩,rfl,rfl⟩ (hs:=rfl)
end Go.Proofs.YtplgbfkpeampgaaGreatDoor
