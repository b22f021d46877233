/- Walks (printed by a program of my own). -/
import Derived.Test.YtplgbfkpeampgaaGreatDoorQ4
set_option linter.unusedVariables false
set_option linter.unusedSimpArgs false
set_option maxRecDepth 100000
namespace Go.Proofs.YtplgbfkpeampgaaGreatDoor
open Go
theorem k_rem_Shifted {xs:List Nat} {k len:Nat} {cd:Nat→Nat × Nat} {S:Nat→Prop} {t:List Nat} (iv:Value) (b o:Nat) (sh:Shp) (s:BR) (h:RdT xs k len cd S s t) (hz:len≤1152921504606846976):
    Con Tryz.prog 44 [Vp b o] [⟨b,o,brC iv s,sh⟩] [] (fun v l'=>v=Vd (tN cd t)∧l'=[⟨b,o,brC iv s,sh⟩]):=
  (c_remaining_Shifted iv len b o sh s h.pos.ok h.pos.rd hz).mono fun v l' hh=>⟨hh.1.trans (congrArg (fun q:Nat=>Value.int .u64 (q:Int)) (by have:=h.pos.n;unfold BR.left;omega)),hh.2⟩
theorem k_rem_Bytes {xs:List Nat} {k len:Nat} {cd:Nat→Nat × Nat} {S:Nat→Prop} {t:List Nat} (iv:Value) (b o:Nat) (sh:Shp) (s:BR) (h:RdT xs k len cd S s t) (hz:len≤1152921504606846976):
    Con Tryz.prog 62 [Vp b o] [⟨b,o,brC iv s,sh⟩] [] (fun v l'=>v=Vd (tN cd t)∧l'=[⟨b,o,brC iv s,sh⟩]):=
  (c_remaining_Bytes iv len b o sh s h.pos.ok h.pos.rd hz).mono fun v l' hh=>⟨hh.1.trans (congrArg (fun q:Nat=>Value.int .u64 (q:Int)) (by have:=h.pos.n;unfold BR.left;omega)),hh.2⟩
set_option maxHeartbeats 8000000 in
theorem c_D4X_hi (bi so:Nat) (shi:Shp) (xs:List Nat) (k len cap:Nat) (hc:len≤cap) (hk:k+len≤xs.length) (hz:xs.length≤1152921504606846976) (hb:Bytes xs)
    (bt to tcap:Nat) (sht:Shp) (dt:List Nat) (hdl:dt.length=2048) (htc:2048≤tcap) (L:Nat) (cd:Nat→Nat × Nat) (S:Nat→Prop) (hT:Tab dt L cd S)
    (be eo:Nat) (she:Shp) (dp:Value) (bd:Nat) (zs text:List Nat) (hzs:zs.length=text.length) (h48:text.length≤1073741824)
    (ev m3:Nat) (hm3:text.length=3*ev+m3) (hm31:1≤m3∧m3≤ev∧ev≤m3+3) (st1 st2 st3 ln0 ln1 ln2 ln3:Nat) (hs1:st1=6+ln0) (hs2:st2=st1+ln1) (hs3:st3=st2+ln2) (hs4:len=st3+ln3)
    (hln:1≤ln0∧1≤ln1∧1≤ln2∧1≤ln3) (hj0:xs.getD k 0=ln0%256∧xs.getD (k+1) 0=ln0/256) (hj1:xs.getD (k+2) 0=ln1%256∧xs.getD (k+3) 0=ln1/256) (hj2:xs.getD (k+4) 0=ln2%256∧xs.getD (k+5) 0=ln2/256)
    (hb0:0<xs.getD (k+6+(ln0-1)) 0) (hb1:0<xs.getD (k+st1+(ln1-1)) 0) (hb2:0<xs.getD (k+st2+(ln2-1)) 0) (hb3:0<xs.getD (k+st3+(ln3-1)) 0) (hL8:8<L) (hI0:RdT xs (k+6) ln0 cd S (BR.init 5 xs (k+6) ln0) (sub text (ev*0) ev)) (hI1:RdT xs (k+st1) ln1 cd S (BR.init 5 xs (k+st1) ln1) (sub text (ev*1) ev)) (hI2:RdT xs (k+st2) ln2 cd S (BR.init 5 xs (k+st2) ln2) (sub text (ev*2) ev)) (hI3:RdT xs (k+st3) ln3 cd S (BR.init 5 xs (k+st3) ln3) (sub text (ev*3) m3)):Con Tryz.prog 23 [Vp be eo,Vs bd 0 0 text.length,Vs bi (so+k) len cap] [⟨bd,0,(nats .u8 zs),none⟩] [⟨be,eo,[Vs bt to 2048 tcap,Va L,dp],she⟩,⟨bt,to,(nats .u16 dt),sht⟩,⟨bi,so,(nats .u8 xs),shi⟩] (fun v l'=>∃q b o cs cap,v=.tuple #[.slice q text.length cap,.nilIface]∧GS q b o cs 1 cap∧text.length≤cap∧cs.take text.length=nats .u8 text∧l'=[⟨b,o,cs,none⟩]):=by
 refine Zi Tryz.func23 rfl fun w0=>?_
 refine G.seq ?_
 have hL1:=hT.L1
 have hev:ev=(text.length+3)/4:=Om
 have hx0:=hb.at_ k
 have hx1:=hb.at_ (k+1)
 have hx2:=hb.at_ (k+2)
 have hx3:=hb.at_ (k+3)
 have hx4:=hb.at_ (k+4)
 have hx5:=hb.at_ (k+5)
 have hL11:=hT.L16
 have hLL:=pow_le hL11
 refine YG ?_
 refine Y3 ?_
 refine Yy (Zf fo_119_0) ?_
 refine Yy (Zf fo_83_0) ?_
 refine Yr (Zk 0 0 ag_81) ?_
 refine Yy (Zlen un_81) ?_
 refine Yy (Zeq 2048 0) ?_
 refine Zn ?_
 refine G.condDF rfl Od ?_
 refine Z7 (Y6 ?_)
 refine Yy (Zlen un_22) ?_
 refine Yy (Zlt len 10) ?_
 refine Zn ?_
 refine Zc (fun h1=>?_) (fun h1=>?_)
 exfalso;omega
 refine Z7 (Y6 ?_)
 refine Yy (Zf fo_119_1) ?_
 refine Yr (Zk 0 1 ag_5) ?_
 refine Yy (Zle L 8) ?_
 refine Zn ?_
 refine Zc (fun h2=>?_) (fun h2=>?_)
 exfalso;omega
 refine Y8 ?_
 refine Ze (Zal zc_122) fun b3=>?_
 refine Z4 ?_
 refine G.cut2 (o':=4) (xs:=[.slice none 0 0,Vd 0,Vd 0,Va 0]) (ys:=[.slice none 0 0,Vd 0,Vd 0,Va 0,.slice none 0 0,Vd 0,Vd 0,Va 0,.slice none 0 0,Vd 0,Vd 0,Va 0]) 0 rfl rfl rfl ?_
 refine G.cut2 (o':=8) (xs:=[.slice none 0 0,Vd 0,Vd 0,Va 0]) (ys:=[.slice none 0 0,Vd 0,Vd 0,Va 0,.slice none 0 0,Vd 0,Vd 0,Va 0]) 1 rfl rfl rfl ?_
 refine G.cut2 (o':=12) (xs:=[.slice none 0 0,Vd 0,Vd 0,Va 0]) (ys:=[.slice none 0 0,Vd 0,Vd 0,Va 0]) 1 rfl rfl rfl ?_
 refine YG ?_
 refine Y3 ?_
 refine Zn (G.block ?_)
 refine G.pick [3,2,0,0,0] rfl ?_
 refine Zo (fun mz ρ l=>(mz=3∧ρ=[(0,Vp be eo),(1,Vs bd 0 0 text.length),(2,Vs bi (so+k) len cap),(6,.slice none 0 0),(7,Value.nilIface),(8,Vp b3 0),(9,Vh 6),(10,Vh 0)]∧l=[⟨b3,0,[.slice none 0 0,Vd 0,Vd 0,Va 0],none⟩,⟨b3,4,[.slice none 0 0,Vd 0,Vd 0,Va 0],none⟩,⟨b3,8,[.slice none 0 0,Vd 0,Vd 0,Va 0],none⟩,⟨b3,12,[.slice none 0 0,Vd 0,Vd 0,Va 0],none⟩,⟨bd,0,(nats .u8 zs),none⟩])∨(mz=2∧ρ=[(0,Vp be eo),(1,Vs bd 0 0 text.length),(2,Vs bi (so+k) len cap),(6,.slice none 0 0),(7,Value.nilIface),(8,Vp b3 0),(9,Vh st1),(10,Vh 1)]∧l=[⟨b3,0,[Vs bi (so+(k+6)) ln0 (cap-6),Vd ((BR.init 5 xs (k+6) ln0).off),Vd ((BR.init 5 xs (k+6) ln0).val),Va ((BR.init 5 xs (k+6) ln0).rd)],none⟩,⟨b3,4,[.slice none 0 0,Vd 0,Vd 0,Va 0],none⟩,⟨b3,8,[.slice none 0 0,Vd 0,Vd 0,Va 0],none⟩,⟨b3,12,[.slice none 0 0,Vd 0,Vd 0,Va 0],none⟩,⟨bd,0,(nats .u8 zs),none⟩])∨(mz=1∧ρ=[(0,Vp be eo),(1,Vs bd 0 0 text.length),(2,Vs bi (so+k) len cap),(6,.slice none 0 0),(7,Value.nilIface),(8,Vp b3 0),(9,Vh st2),(10,Vh 2)]∧l=[⟨b3,0,[Vs bi (so+(k+6)) ln0 (cap-6),Vd ((BR.init 5 xs (k+6) ln0).off),Vd ((BR.init 5 xs (k+6) ln0).val),Va ((BR.init 5 xs (k+6) ln0).rd)],none⟩,⟨b3,4,[Vs bi (so+(k+st1)) ln1 (cap-st1),Vd ((BR.init 5 xs (k+st1) ln1).off),Vd ((BR.init 5 xs (k+st1) ln1).val),Va ((BR.init 5 xs (k+st1) ln1).rd)],none⟩,⟨b3,8,[.slice none 0 0,Vd 0,Vd 0,Va 0],none⟩,⟨b3,12,[.slice none 0 0,Vd 0,Vd 0,Va 0],none⟩,⟨bd,0,(nats .u8 zs),none⟩])∨(mz=0∧ρ=[(0,Vp be eo),(1,Vs bd 0 0 text.length),(2,Vs bi (so+k) len cap),(6,.slice none 0 0),(7,Value.nilIface),(8,Vp b3 0),(9,Vh st3),(10,Vh 3)]∧l=[⟨b3,0,[Vs bi (so+(k+6)) ln0 (cap-6),Vd ((BR.init 5 xs (k+6) ln0).off),Vd ((BR.init 5 xs (k+6) ln0).val),Va ((BR.init 5 xs (k+6) ln0).rd)],none⟩,⟨b3,4,[Vs bi (so+(k+st1)) ln1 (cap-st1),Vd ((BR.init 5 xs (k+st1) ln1).off),Vd ((BR.init 5 xs (k+st1) ln1).val),Va ((BR.init 5 xs (k+st1) ln1).rd)],none⟩,⟨b3,8,[Vs bi (so+(k+st2)) ln2 (cap-st2),Vd ((BR.init 5 xs (k+st2) ln2).off),Vd ((BR.init 5 xs (k+st2) ln2).val),Va ((BR.init 5 xs (k+st2) ln2).rd)],none⟩,⟨b3,12,[.slice none 0 0,Vd 0,Vd 0,Va 0],none⟩,⟨bd,0,(nats .u8 zs),none⟩])) (Or.inl ⟨rfl,rfl,rfl⟩) ?_
 rintro _ _ _ (⟨rfl,rfl,rfl⟩|⟨rfl,rfl,rfl⟩|⟨rfl,rfl,rfl⟩|⟨rfl,rfl,rfl⟩)
 refine Y6 ?_
 refine Yy (Zlt 0 3) ?_
 refine Zn ?_
 refine G.condDT rfl Od ?_
 refine Z7 (G.seq (G.block (G.seq ?_)))
 refine Zg 0 [y_0,y_1,y_2,y_3,r_4,y_5,y_6,y_7,y_8,y_9,y_10,r_11,y_12,y_13,y_14,y_15] ?_
 refine Ypa ?_
 refine Ypy (Zq 0 (ZmulNh 0 2) Od) ?_
 refine Ypy (Zx (so+k) 0 se_22) ?_
 refine Ypr (Zkc 2 k ag_5 rfl (nats_get Om)) ?_
 refine Ypy (ZcvNh (xs.getD k 0) un_5 un_3) ?_
 refine Ypy (Zq 0 (ZmulNh 0 2) Od) ?_
 refine Ypy (Zq 1 (ZaddNh 0 1) Od) ?_
 refine Ypy (Zx (so+(k+1)) 1 se_22) ?_
 refine Ypr (Zkc 2 (k+1) ag_5 rfl (nats_get Om)) ?_
 refine Ypy (ZcvNh (xs.getD (k+1) 0) un_5 un_3) ?_
 refine Ypy (ZshlNh (xs.getD (k+1) 0) 8) ?_
 refine Ypy (Zq ln0 (ZorNh (xs.getD k 0) ((xs.getD (k+1) 0)*2^8)) (jt hj0)) ?_
 refine GP.nil (GQ.thenN (Y6 ?_))
 refine Yy (ZaddNh 6 ln0) ?_
 refine Yy (Zlen un_22) ?_
 refine Yy (Zge (6+ln0) len) ?_
 refine Zn ?_
 refine Zc (fun h4=>?_) (fun h4=>?_)
 exfalso;omega
 refine Z7 (G.seq ?_)
 refine Zg 256 [y_0,y_1,y_2,y_3,y_4,y_5,y_6,y_7,e_8,y_9] ?_
 refine Ypa ?_
 refine Ypy (Zxa 0 0 ae_122) ?_
 refine Ypy (ZaddNh 6 ln0) ?_
 refine Ypy (y_congr (y_slLH (q':=so+(k+6)) (lo:=6) (hi:=6+ln0) rfl rfl rfl rfl se_22 Om Om) (slice_eq (a:=6+ln0-6) (a':=ln0) (b:=cap-6) (b':=cap-6) Om Om)) ?_
 refine Zpcc [0] [6] (c_init_Shifted bi so shi xs (k+6) ln0 (cap-6) Om Om Om Oa Om Oa b3 0 none _ _ _ _) rfl ?_
 refine Ypa ?_
 refine GP.nil (GQ.thenN (Y6 ?_))
 refine Yy (y_neNilNil rfl rfl un_52) ?_
 refine Zn (G.condF rfl (Z7 (YG ?_)))
 refine Yy (Zq st1 (ZaddNh 6 ln0)) ?_
 refine GL.nil (GQ.blockN (GQ.thenN (YG ?_)))
 refine Yy (Zq 1 (ZaddNh 0 1) Od) ?_
 refine GL.nil ?_
 exact Zb (Or.inr (Or.inl ⟨rfl,rfl,rfl⟩)) Od
 refine Y6 ?_
 refine Yy (Zlt 1 3) ?_
 refine Zn ?_
 refine G.condDT rfl Od ?_
 refine Z7 (G.seq (G.block (G.seq ?_)))
 refine Zg 0 [y_0,y_1,y_2,y_3,r_4,y_5,y_6,y_7,y_8,y_9,y_10,r_11,y_12,y_13,y_14,y_15] ?_
 refine Ypa ?_
 refine Ypy (Zq 2 (ZmulNh 1 2) Od) ?_
 refine Ypy (Zx (so+(k+2)) 2 se_22) ?_
 refine Ypr (Zkc 2 (k+2) ag_5 rfl (nats_get Om)) ?_
 refine Ypy (ZcvNh (xs.getD (k+2) 0) un_5 un_3) ?_
 refine Ypy (Zq 2 (ZmulNh 1 2) Od) ?_
 refine Ypy (Zq 3 (ZaddNh 2 1) Od) ?_
 refine Ypy (Zx (so+(k+3)) 3 se_22) ?_
 refine Ypr (Zkc 2 (k+3) ag_5 rfl (nats_get Om)) ?_
 refine Ypy (ZcvNh (xs.getD (k+3) 0) un_5 un_3) ?_
 refine Ypy (ZshlNh (xs.getD (k+3) 0) 8) ?_
 refine Ypy (Zq ln1 (ZorNh (xs.getD (k+2) 0) ((xs.getD (k+3) 0)*2^8)) (jt hj1)) ?_
 refine GP.nil (GQ.thenN (Y6 ?_))
 refine Yy (ZaddNh st1 ln1) ?_
 refine Yy (Zlen un_22) ?_
 refine Yy (Zge (st1+ln1) len) ?_
 refine Zn ?_
 refine Zc (fun h5=>?_) (fun h5=>?_)
 exfalso;omega
 refine Z7 (G.seq ?_)
 refine Zg 256 [y_0,y_1,y_2,y_3,y_4,y_5,y_6,y_7,e_8,y_9] ?_
 refine Ypa ?_
 refine Ypy (Zxa 4 1 ae_122) ?_
 refine Ypy (ZaddNh st1 ln1) ?_
 refine Ypy (y_congr (y_slLH (q':=so+(k+st1)) (lo:=st1) (hi:=st1+ln1) rfl rfl rfl rfl se_22 Om Om) (slice_eq (a:=st1+ln1-st1) (a':=ln1) (b:=cap-st1) (b':=cap-st1) Om Om)) ?_
 refine Zpcc [1] [6] (c_init_Shifted bi so shi xs (k+st1) ln1 (cap-st1) Om Om Om Oa Om Oa b3 4 none _ _ _ _) rfl ?_
 refine Ypa ?_
 refine GP.nil (GQ.thenN (Y6 ?_))
 refine Yy (y_neNilNil rfl rfl un_52) ?_
 refine Zn (G.condF rfl (Z7 (YG ?_)))
 refine Yy (Zq st2 (ZaddNh st1 ln1)) ?_
 refine GL.nil (GQ.blockN (GQ.thenN (YG ?_)))
 refine Yy (Zq 2 (ZaddNh 1 1) Od) ?_
 refine GL.nil ?_
 refine GQ.pick [1,0,0,0,0] rfl ?_
 exact Zb (Or.inr (Or.inr (Or.inl ⟨rfl,rfl,rfl⟩))) Od
 refine Y6 ?_
 refine Yy (Zlt 2 3) ?_
 refine Zn ?_
 refine G.condDT rfl Od ?_
 refine Z7 (G.seq (G.block (G.seq ?_)))
 refine Zg 0 [y_0,y_1,y_2,y_3,r_4,y_5,y_6,y_7,y_8,y_9,y_10,r_11,y_12,y_13,y_14,y_15] ?_
 refine Ypa ?_
 refine Ypy (Zq 4 (ZmulNh 2 2) Od) ?_
 refine Ypy (Zx (so+(k+4)) 4 se_22) ?_
 refine Ypr (Zkc 2 (k+4) ag_5 rfl (nats_get Om)) ?_
 refine Ypy (ZcvNh (xs.getD (k+4) 0) un_5 un_3) ?_
 refine Ypy (Zq 4 (ZmulNh 2 2) Od) ?_
 refine Ypy (Zq 5 (ZaddNh 4 1) Od) ?_
 refine Ypy (Zx (so+(k+5)) 5 se_22) ?_
 refine Ypr (Zkc 2 (k+5) ag_5 rfl (nats_get Om)) ?_
 refine Ypy (ZcvNh (xs.getD (k+5) 0) un_5 un_3) ?_
 refine Ypy (ZshlNh (xs.getD (k+5) 0) 8) ?_
 refine Ypy (Zq ln2 (ZorNh (xs.getD (k+4) 0) ((xs.getD (k+5) 0)*2^8)) (jt hj2)) ?_
 refine GP.nil (GQ.thenN (Y6 ?_))
 refine Yy (ZaddNh st2 ln2) ?_
 refine Yy (Zlen un_22) ?_
 refine Yy (Zge (st2+ln2) len) ?_
 refine Zn ?_
 refine Zc (fun h6=>?_) (fun h6=>?_)
 exfalso;omega
 refine Z7 (G.seq ?_)
 refine Zg 256 [y_0,y_1,y_2,y_3,y_4,y_5,y_6,y_7,e_8,y_9] ?_
 refine Ypa ?_
 refine Ypy (Zxa 8 2 ae_122) ?_
 refine Ypy (ZaddNh st2 ln2) ?_
 refine Ypy (y_congr (y_slLH (q':=so+(k+st2)) (lo:=st2) (hi:=st2+ln2) rfl rfl rfl rfl se_22 Om Om) (slice_eq (a:=st2+ln2-st2) (a':=ln2) (b:=cap-st2) (b':=cap-st2) Om Om)) ?_
 refine Zpcc [2] [6] (c_init_Shifted bi so shi xs (k+st2) ln2 (cap-st2) Om Om Om Oa Om Oa b3 8 none _ _ _ _) rfl ?_
 refine Ypa ?_
 refine GP.nil (GQ.thenN (Y6 ?_))
 refine Yy (y_neNilNil rfl rfl un_52) ?_
 refine Zn (G.condF rfl (Z7 (YG ?_)))
 refine Yy (Zq st3 (ZaddNh st2 ln2)) ?_
 refine GL.nil (GQ.blockN (GQ.thenN (YG ?_)))
 refine Yy (Zq 3 (ZaddNh 2 1) Od) ?_
 refine GL.nil ?_
 refine GQ.pick [1,1,0,0,0] rfl ?_
 exact Zb (Or.inr (Or.inr (Or.inr (⟨rfl,rfl,rfl⟩)))) Od
 refine Y6 ?_
 refine Yy (Zlt 3 3) ?_
 refine Zn ?_
 refine G.condDF rfl Od ?_
 refine G.exit (GQ.thenE (GQ.thenE (GQ.blockE (GQ.thenN (Y5 ?_)))))
 refine Yy (Zxa 12 3 ae_122) ?_
 refine Yy (y_congr (y_slL (q':=so+(k+st3)) (lo:=st3) rfl rfl rfl se_22 Om Om) (slice_eq (a:=len-st3) (a':=ln3) (b:=cap-st3) (b':=cap-st3) Om Om)) ?_
 refine Zcc [3] [6] (c_init_Shifted bi so shi xs (k+st3) ln3 (cap-st3) Om Om Om Oa Om Oa b3 12 none _ _ _ _) rfl ?_
 refine Ya ?_
 refine Y3 ?_
 refine Yy (y_neNilNil rfl rfl un_52) ?_
 refine Zn (G.condF rfl (Y8 ?_))
 refine Yy (y_cap rfl rfl rfl rfl un_22) ?_
 refine Y2 ?_
 refine Yy (y_slH (hi:=text.length) rfl rfl rfl se_22 Om) ?_
 refine Y2 ?_
 refine Y2 ?_
 refine Yy (ZaddNh text.length 3) ?_
 refine Yy (Zq ev (ZquoNh (text.length+3) 4)) ?_
 refine Y2 ?_
 refine Yy (Zf fo_119_0) ?_
 refine Yy (Zf fo_83_0) ?_
 refine Yr (Zk 0 0 ag_81) ?_
 refine Yy (y_slH (hi:=2048) rfl rfl rfl se_81 Om) ?_
 refine Y2 ?_
 refine Zcp [] [5] (c_buffer be eo she _ _ _) rfl ?_
 rintro _ _ ⟨b7,rfl,rfl⟩
 refine Ya ?_
 refine Z4 ?_
 refine G.cut2 (o':=256) (xs:=(nats .u8 (List.replicate 256 0))) (ys:=(nats .u8 (List.replicate 768 0))) 0 rfl (nats_rep_add .u8 256 768 0) rfl ?_
 refine G.cut2 (o':=512) (xs:=(nats .u8 (List.replicate 256 0))) (ys:=(nats .u8 (List.replicate 512 0))) 1 rfl (nats_rep_add .u8 256 512 0) rfl ?_
 refine G.cut2 (o':=768) (xs:=(nats .u8 (List.replicate 256 0))) (ys:=(nats .u8 (List.replicate 256 0))) 1 rfl (nats_rep_add .u8 256 256 0) rfl ?_
 refine YG ?_
 refine Y2 ?_
 refine Z4 (G.block ?_)
 refine G.pick [5,5,5,4,3,2,0,0,0] rfl ?_
 refine Zo (fun mz ρ l=>∃s0 s1 s2 s3:BR,∃y0 y1 y2 y3 ds:List Nat,∃n pn ob:Nat,mz=ev-n∧(RdT xs (k+6) ln0 cd S s0 (sub text (ev*0+n) (ev-n)))∧(RdT xs (k+st1) ln1 cd S s1 (sub text (ev*1+n) (ev-n)))∧(RdT xs (k+st2) ln2 cd S s2 (sub text (ev*2+n) (ev-n)))∧(RdT xs (k+st3) ln3 cd S s3 (sub text (ev*3+n) (m3-n)))∧(y0.length=256∧Row y0 text (ev*0+pn) ob)∧(y1.length=256∧Row y1 text (ev*1+pn) ob)∧(y2.length=256∧Row y2 text (ev*2+pn) ob)∧(y3.length=256∧Row y3 text (ev*3+pn) ob)∧(Got ds text (ev*0) pn)∧(Got ds text (ev*1) pn)∧(Got ds text (ev*2) pn)∧(Got ds text (ev*3) pn)∧(ds.length=text.length)∧(n=pn+ob∧n≤m3∧ob<256∧ob%2=0)∧ρ=[(0,Vp be eo),(1,Vs bd 0 text.length text.length),(8,Vp b3 0),(14,Vh text.length),(15,Vs bd pn (text.length-pn) (text.length-pn)),(16,Vh ev),(17,Vs bt to 2048 tcap),(18,Vp b7 0),(19,Va ob),(20,Vh (4*pn)),(6,.slice none 0 0),(7,Value.nilIface)]∧l=[⟨b3,0,[Vs bi (so+(k+6)) ln0 (cap-6),Vd s0.off,Vd s0.val,Va s0.rd],none⟩,⟨b3,4,[Vs bi (so+(k+st1)) ln1 (cap-st1),Vd s1.off,Vd s1.val,Va s1.rd],none⟩,⟨b3,8,[Vs bi (so+(k+st2)) ln2 (cap-st2),Vd s2.off,Vd s2.val,Va s2.rd],none⟩,⟨b3,12,[Vs bi (so+(k+st3)) ln3 (cap-st3),Vd s3.off,Vd s3.val,Va s3.rd],none⟩,⟨b7,0,(nats .u8 y0),none⟩,⟨b7,256,(nats .u8 y1),none⟩,⟨b7,512,(nats .u8 y2),none⟩,⟨b7,768,(nats .u8 y3),none⟩,⟨bd,0,(nats .u8 ds),none⟩]) ⟨(BR.init 5 xs (k+6) ln0),(BR.init 5 xs (k+st1) ln1),(BR.init 5 xs (k+st2) ln2),(BR.init 5 xs (k+st3) ln3),(List.replicate 256 0),(List.replicate 256 0),(List.replicate 256 0),(List.replicate 256 0),zs,0,0,0,rfl,hI0,hI1,hI2,hI3,⟨Oi,Row.zero⟩,⟨Oi,Row.zero⟩,⟨Oi,Row.zero⟩,⟨Oi,Row.zero⟩,Got.zero,Got.zero,Got.zero,Got.zero,hzs,⟨rfl,Nat.zero_le _,Od,rfl⟩,rfl,rfl⟩ ?_ (hs:=rfl)
 rintro _ _ _ ⟨s0,s1,s2,s3,y0,y1,y2,y3,ds,n,pn,ob,rfl,hR0,hR1,hR2,hR3,hy0,hy1,hy2,hy3,hG0,hG1,hG2,hG3,hds,hn,rfl,rfl⟩
 have hk0:=hR0.pos.ok
 have hv0:=hk0.val
 have hl0:=hR0.left
 have hq0:=hR0.leS hT hL11 Om
 have hyl0:=hy0.1
 have hk1:=hR1.pos.ok
 have hv1:=hk1.val
 have hl1:=hR1.left
 have hq1:=hR1.leS hT hL11 Om
 have hyl1:=hy1.1
 have hk2:=hR2.pos.ok
 have hv2:=hk2.val
 have hl2:=hR2.left
 have hq2:=hR2.leS hT hL11 Om
 have hyl2:=hy2.1
 have hk3:=hR3.pos.ok
 have hv3:=hk3.val
 have hl3:=hR3.left
 have hq3:=hR3.leS hT hL11 Om
 have hyl3:=hy3.1
 refine G.block (G.seq (G.seq ?_))
 refine G.meetK (fun ρ l=>∃w:Bool,(w=false→4≤s0.off∧4≤s1.off∧4≤s2.off∧4≤s3.off)∧ρ=[(0,Vp be eo),(1,Vs bd 0 text.length text.length),(8,Vp b3 0),(14,Vh text.length),(15,Vs bd pn (text.length-pn) (text.length-pn)),(16,Vh ev),(17,Vs bt to 2048 tcap),(18,Vp b7 0),(19,Va ob),(20,Vh (4*pn)),(6,.slice none 0 0),(7,Value.nilIface),(151,.bool w)]∧l=[⟨b3,0,[Vs bi (so+(k+6)) ln0 (cap-6),Vd s0.off,Vd s0.val,Va s0.rd],none⟩,⟨b3,4,[Vs bi (so+(k+st1)) ln1 (cap-st1),Vd s1.off,Vd s1.val,Va s1.rd],none⟩,⟨b3,8,[Vs bi (so+(k+st2)) ln2 (cap-st2),Vd s2.off,Vd s2.val,Va s2.rd],none⟩,⟨b3,12,[Vs bi (so+(k+st3)) ln3 (cap-st3),Vd s3.off,Vd s3.val,Va s3.rd],none⟩,⟨b7,0,(nats .u8 y0),none⟩,⟨b7,256,(nats .u8 y1),none⟩,⟨b7,512,(nats .u8 y2),none⟩,⟨b7,768,(nats .u8 y3),none⟩,⟨bd,0,(nats .u8 ds),none⟩]) ?_ ?_
 refine YG ?_
 refine Yy (Zxa 0 0 ae_122) ?_
 refine Yy (Zf fo_121_1) ?_
 refine Yr (Zl 0 1 ag_39) ?_
 refine Zy (Zlt s0.off 4) ?_
 refine Za 1 ?_
 refine GL.split (t:=134) (p:=((s0.off:Nat):Int)<((4:Nat):Int)) rfl (fun h8=>?_) (fun h8=>?_)
 refine Ya ?_
 refine GL.nil ?_
 exact Zm ⟨true,(fun h=>by cases h),rfl,rfl⟩
 refine Yy (Zxa 4 1 ae_122) ?_
 refine Yy (Zf fo_121_1) ?_
 refine Yr (Zl 1 1 ag_39) ?_
 refine Zy (Zlt s1.off 4) ?_
 refine Za 2 ?_
 refine GL.split (t:=140) (p:=((s1.off:Nat):Int)<((4:Nat):Int)) rfl (fun h9=>?_) (fun h9=>?_)
 refine Ya ?_
 refine GL.nil ?_
 exact Zm ⟨true,(fun h=>by cases h),rfl,rfl⟩
 refine Yy (Zxa 8 2 ae_122) ?_
 refine Yy (Zf fo_121_1) ?_
 refine Yr (Zl 2 1 ag_39) ?_
 refine Zy (Zlt s2.off 4) ?_
 refine Za 2 ?_
 refine GL.split (t:=146) (p:=((s2.off:Nat):Int)<((4:Nat):Int)) rfl (fun h10=>?_) (fun h10=>?_)
 refine Ya ?_
 refine GL.nil ?_
 exact Zm ⟨true,(fun h=>by cases h),rfl,rfl⟩
 refine Yy (Zxa 12 3 ae_122) ?_
 refine Yy (Zf fo_121_1) ?_
 refine Yr (Zl 3 1 ag_39) ?_
 refine Yy (Zlt s3.off 4) ?_
 refine GL.nil ?_
 exact Zm ⟨(decide (((s3.off:Nat):Int)<((4:Nat):Int))),(fun h=>by have h9:=of_decide_eq_false h;exact⟨Om,Om,Om,Om⟩),rfl,rfl⟩
 rintro _ _ ⟨w,hw,rfl,rfl⟩
 refine GQ.thenN ?_
 refine G.cond rfl (fun hwc=>?_) (fun hwc=>?_)
 refine G.exit (GQ.thenE (GQ.blockO rfl (GQ.thenE (GQ.blockE (GQ.thenN (Y6 ?_))))))
 refine Yy (Zgt ob 0) ?_
 refine Zn ?_
 refine G.meetK (fun ρ l=>∃d2:List Nat,∃nn:Nat,(Got d2 text (ev*0) n)∧(Got d2 text (ev*1) n)∧(Got d2 text (ev*2) n)∧(Got d2 text (ev*3) n)∧(d2.length=text.length)∧(n=nn)∧ρ=[(0,Vp be eo),(1,Vs bd 0 text.length text.length),(8,Vp b3 0),(14,Vh text.length),(15,Vs bd nn (text.length-nn) (text.length-nn)),(16,Vh ev),(17,Vs bt to 2048 tcap),(18,Vp b7 0),(20,Vh (4*nn)),(6,.slice none 0 0),(7,Value.nilIface)]∧l=[⟨b3,0,[Vs bi (so+(k+6)) ln0 (cap-6),Vd s0.off,Vd s0.val,Va s0.rd],none⟩,⟨b3,4,[Vs bi (so+(k+st1)) ln1 (cap-st1),Vd s1.off,Vd s1.val,Va s1.rd],none⟩,⟨b3,8,[Vs bi (so+(k+st2)) ln2 (cap-st2),Vd s2.off,Vd s2.val,Va s2.rd],none⟩,⟨b3,12,[Vs bi (so+(k+st3)) ln3 (cap-st3),Vd s3.off,Vd s3.val,Va s3.rd],none⟩,⟨bd,0,(nats .u8 d2),none⟩]) ?_ ?_
 refine Zc (fun h11=>?_) (fun h11=>?_)
 refine Y5 ?_
 refine Yy (ZcvNh ob un_5 un_3) ?_
 refine Y3 ?_
 refine Yy (Zlen un_22) ?_
 refine Yy (ZmulNh ev 3) ?_
 refine Yy (ZaddNh (ev*3) ob) ?_
 refine Yy (Zlt (text.length-pn) ((ev*3)+ob)) ?_
 refine Zn ?_
 refine Zc (fun h12=>?_) (fun h12=>?_)
 exfalso;omega
 refine Z7 (G.seq ?_)
 have hX0:=Row.take hy0.2 (Nat.le_refl _) Om
 have hX1:=Row.take hy1.2 (Nat.le_refl _) Om
 have hX2:=Row.take hy2.2 (Nat.le_refl _) Om
 have hX3:=Row.take hy3.2 (Nat.le_refl _) Om
 obtain⟨dw0,hdw0⟩:∃z,z=splN ds pn ((y0.drop 0).take ob):=⟨_,rfl⟩
 have hS0:dw0.length=text.length:=by rw[hdw0,splN_length (by have:=(hX0).2;omega)];exact hds
 have hE0_0:Got dw0 text (ev*0) (pn+ob):=hdw0▸Got.more (ds:=ds) (j:=pn) hG0 hX0.1 ⟨Om,hX0.2,Om,Om⟩
 have hE0_1:Got dw0 text (ev*1) pn:=hdw0▸Got.keep (ds:=ds) (j:=pn) hG1 hX0.1 ⟨Om,hX0.2,Om⟩
 have hE0_2:Got dw0 text (ev*2) pn:=hdw0▸Got.keep (ds:=ds) (j:=pn) hG2 hX0.1 ⟨Om,hX0.2,Om⟩
 have hE0_3:Got dw0 text (ev*3) pn:=hdw0▸Got.keep (ds:=ds) (j:=pn) hG3 hX0.1 ⟨Om,hX0.2,Om⟩
 obtain⟨dw1,hdw1⟩:∃z,z=splN dw0 (pn+ev) ((y1.drop 0).take ob):=⟨_,rfl⟩
 have hS1:dw1.length=text.length:=by rw[hdw1,splN_length (by have:=(hX1).2;omega)];exact hS0
 have hE1_0:Got dw1 text (ev*0) (pn+ob):=hdw1▸Got.keep (ds:=dw0) (j:=pn+ev) hE0_0 hX1.1 ⟨Om,hX1.2,Om⟩
 have hE1_1:Got dw1 text (ev*1) (pn+ob):=hdw1▸Got.more (ds:=dw0) (j:=pn+ev) hE0_1 hX1.1 ⟨Om,hX1.2,Om,Om⟩
 have hE1_2:Got dw1 text (ev*2) pn:=hdw1▸Got.keep (ds:=dw0) (j:=pn+ev) hE0_2 hX1.1 ⟨Om,hX1.2,Om⟩
 have hE1_3:Got dw1 text (ev*3) pn:=hdw1▸Got.keep (ds:=dw0) (j:=pn+ev) hE0_3 hX1.1 ⟨Om,hX1.2,Om⟩
 clear hE0_0 hE0_1 hE0_2 hE0_3
 obtain⟨dw2,hdw2⟩:∃z,z=splN dw1 (pn+(ev*2)) ((y2.drop 0).take ob):=⟨_,rfl⟩
 have hS2:dw2.length=text.length:=by rw[hdw2,splN_length (by have:=(hX2).2;omega)];exact hS1
 have hE2_0:Got dw2 text (ev*0) (pn+ob):=hdw2▸Got.keep (ds:=dw1) (j:=pn+(ev*2)) hE1_0 hX2.1 ⟨Om,hX2.2,Om⟩
 have hE2_1:Got dw2 text (ev*1) (pn+ob):=hdw2▸Got.keep (ds:=dw1) (j:=pn+(ev*2)) hE1_1 hX2.1 ⟨Om,hX2.2,Om⟩
 have hE2_2:Got dw2 text (ev*2) (pn+ob):=hdw2▸Got.more (ds:=dw1) (j:=pn+(ev*2)) hE1_2 hX2.1 ⟨Om,hX2.2,Om,Om⟩
 have hE2_3:Got dw2 text (ev*3) pn:=hdw2▸Got.keep (ds:=dw1) (j:=pn+(ev*2)) hE1_3 hX2.1 ⟨Om,hX2.2,Om⟩
 clear hE1_0 hE1_1 hE1_2 hE1_3
 obtain⟨dw3,hdw3⟩:∃z,z=splN dw2 (pn+(ev*3)) ((y3.drop 0).take ob):=⟨_,rfl⟩
 have hS3:dw3.length=text.length:=by rw[hdw3,splN_length (by have:=(hX3).2;omega)];exact hS2
 have hE3_0:Got dw3 text (ev*0) (pn+ob):=hdw3▸Got.keep (ds:=dw2) (j:=pn+(ev*3)) hE2_0 hX3.1 ⟨Om,hX3.2,Om⟩
 have hE3_1:Got dw3 text (ev*1) (pn+ob):=hdw3▸Got.keep (ds:=dw2) (j:=pn+(ev*3)) hE2_1 hX3.1 ⟨Om,hX3.2,Om⟩
 have hE3_2:Got dw3 text (ev*2) (pn+ob):=hdw3▸Got.keep (ds:=dw2) (j:=pn+(ev*3)) hE2_2 hX3.1 ⟨Om,hX3.2,Om⟩
 have hE3_3:Got dw3 text (ev*3) (pn+ob):=hdw3▸Got.more (ds:=dw2) (j:=pn+(ev*3)) hE2_3 hX3.1 ⟨Om,hX3.2,Om,Om⟩
 clear hE2_0 hE2_1 hE2_2 hE2_3
 have hK0:=(hE3_0).at_eq rfl hn.1.symm
 have hK1:=(hE3_1).at_eq rfl hn.1.symm
 have hK2:=(hE3_2).at_eq rfl hn.1.symm
 have hK3:=(hE3_3).at_eq rfl hn.1.symm
 have hKl:=hS3
 refine YG ?_
 refine Yy (Zxa 0 0 ae_156) ?_
 refine Yy (y_slAH (hi:=ob) rfl rfl rfl ae_89 Om) ?_
 refine Zs (e_cpyN (sg:=⟨bd,0,(nats .u8 ds),none⟩) (xs:=ds) (k:=.u8) (ys:=(y0.drop 0).take ob) 8 pn rfl rfl rfl rfl el_22 rfl (Nat.zero_add _).symm (Src.ofL 4 0 rfl (by first|rfl|(congr 2;omega)) (nats_src _ _ _)) (by have:=(hX0).2;omega) ⟨rfl,by have h8:=(hX0).2;have h9:=hds;omega⟩ rfl rfl) ?_
 rw[←hdw0]
 refine Z4 ?_
 refine Zg 256 [y_0,y_1,y_2,y_3,y_4,y_5,y_6,y_7,e_8] ?_
 refine Ypa ?_
 refine Ypy (y_slL (q':=pn+ev) (lo:=ev) rfl rfl rfl se_22 Om Om) ?_
 refine Ypy (Zxa 256 1 ae_156) ?_
 refine Ypy (y_slAH (hi:=ob) rfl rfl rfl ae_89 Om) ?_
 refine Zps (e_cpyN (sg:=⟨bd,0,(nats .u8 dw0),none⟩) (xs:=dw0) (k:=.u8) (ys:=(y1.drop 0).take ob) 8 (pn+ev) rfl rfl rfl rfl el_22 rfl (Nat.zero_add _).symm (Src.ofL 5 0 rfl (by first|rfl|(congr 2;omega)) (nats_src _ _ _)) (by have:=(hX1).2;omega) ⟨rfl,by have h8:=(hX1).2;have h9:=hS0;omega⟩ rfl rfl) ?_
 rw[←hdw1]
 refine GP.nil (GQ.thenN (G.seq ?_))
 refine Zg 512 [y_0,y_1,y_2,y_3,y_4,y_5,y_6,y_7,y_8,e_9] ?_
 refine Ypa ?_
 refine Ypy (ZmulNh ev 2) ?_
 refine Ypy (y_slL (q':=pn+(ev*2)) (lo:=ev*2) rfl rfl rfl se_22 Om Om) ?_
 refine Ypy (Zxa 512 2 ae_156) ?_
 refine Ypy (y_slAH (hi:=ob) rfl rfl rfl ae_89 Om) ?_
 refine Zps (e_cpyN (sg:=⟨bd,0,(nats .u8 dw1),none⟩) (xs:=dw1) (k:=.u8) (ys:=(y2.drop 0).take ob) 8 (pn+(ev*2)) rfl rfl rfl rfl el_22 rfl (Nat.zero_add _).symm (Src.ofL 6 0 rfl (by first|rfl|(congr 2;omega)) (nats_src _ _ _)) (by have:=(hX2).2;omega) ⟨rfl,by have h8:=(hX2).2;have h9:=hS1;omega⟩ rfl rfl) ?_
 rw[←hdw2]
 refine GP.nil (GQ.thenN (G.seq ?_))
 refine Zg 512 [y_0,y_1,y_2,y_3,y_4,y_5,y_6,y_7,y_8,e_9] ?_
 refine Ypa ?_
 refine Ypy (ZmulNh ev 3) ?_
 refine Ypy (y_slL (q':=pn+(ev*3)) (lo:=ev*3) rfl rfl rfl se_22 Om Om) ?_
 refine Ypy (Zxa 768 3 ae_156) ?_
 refine Ypy (y_slAH (hi:=ob) rfl rfl rfl ae_89 Om) ?_
 refine Zps (e_cpyN (sg:=⟨bd,0,(nats .u8 dw2),none⟩) (xs:=dw2) (k:=.u8) (ys:=(y3.drop 0).take ob) 8 (pn+(ev*3)) rfl rfl rfl rfl el_22 rfl (Nat.zero_add _).symm (Src.ofL 7 0 rfl (by first|rfl|(congr 2;omega)) (nats_src _ _ _)) (by have:=(hX3).2;omega) ⟨rfl,by have h8:=(hX3).2;have h9:=hS2;omega⟩ rfl rfl) ?_
 rw[←hdw3]
 refine GP.nil (GQ.thenN (Y5 ?_))
 refine Yy (ZcvNh ob un_5 un_3) ?_
 refine Yy (ZmulNh ob 4) ?_
 refine Yy (Zq (4*n) (ZaddNh (4*pn) (ob*4))) ?_
 refine Y1 ?_
 refine Yy (y_congr (y_slL (q':=n) (lo:=ob) rfl rfl rfl se_22 Om Om) (slice_eq (a:=text.length-pn-ob) (a':=text.length-n) (b:=text.length-pn-ob) (b':=text.length-n) Om Om)) ?_
 refine GL.nil ?_
 refine GQ.pick [0,0,0,0,4] rfl ?_
 exact Zm ⟨_,n,hK0,hK1,hK2,hK3,hKl,rfl,rfl,rfl⟩ (hs:=rfl)
 refine G.skip ?_
 refine GQ.pick [0,0,0,0,4] rfl ?_
 exact Zm ⟨ds,pn,(hG0.at_eq rfl Om),(hG1.at_eq rfl Om),(hG2.at_eq rfl Om),(hG3.at_eq rfl Om),hds,Om,rfl,rfl⟩
 rintro _ _ ⟨d2,nn,hF0,hF1,hF2,hF3,hd2,hnn,rfl,rfl⟩
 subst hnn
 try clear hk0
 try clear hk1
 try clear hk2
 try clear hk3
 try clear hv0
 try clear hv1
 try clear hv2
 try clear hv3
 try clear hl0
 try clear hl1
 try clear hl2
 try clear hl3
 try clear hq0
 try clear hq1
 try clear hq2
 try clear hq3
 try clear hyl0
 try clear hyl1
 try clear hyl2
 try clear hyl3
 try clear hy0
 try clear hy1
 try clear hy2
 try clear hy3
 try clear hG0
 try clear hG1
 try clear hG2
 try clear hG3
 try clear hj0
 try clear hj1
 try clear hj2
 try clear hb0
 try clear hb1
 try clear hb2
 try clear hb3
 try clear hw
 try clear hds
 try clear hx0
 try clear hx1
 try clear hx2
 try clear hx3
 try clear hx4
 try clear hx5
 refine GQ.thenN (Y5 ?_)
 refine Yy (ZquoNh (4*n) 4) ?_
 refine Yy (Zq (ev-n) (ZsubNh ev ((4*n)/4))) ?_
 refine Y3 ?_
 refine Zn (G.block ?_)
 refine Zo (fun mz ρ l=>(mz=4∧(Got d2 text (ev*0) n)∧(Got d2 text (ev*1) n)∧(Got d2 text (ev*2) n)∧(Got d2 text (ev*3) n)∧(d2.length=text.length)∧ρ=[(0,Vp be eo),(1,Vs bd 0 text.length text.length),(8,Vp b3 0),(14,Vh text.length),(15,Vs bd n (text.length-n) (text.length-n)),(16,Vh ev),(17,Vs bt to 2048 tcap),(18,Vp b7 0),(20,Vh (4*n)),(6,.slice none 0 0),(7,Value.nilIface),(499,Vh 0),(30,Vh (ev-n))]∧l=[⟨b3,0,[Vs bi (so+(k+6)) ln0 (cap-6),Vd s0.off,Vd s0.val,Va s0.rd],none⟩,⟨b3,4,[Vs bi (so+(k+st1)) ln1 (cap-st1),Vd s1.off,Vd s1.val,Va s1.rd],none⟩,⟨b3,8,[Vs bi (so+(k+st2)) ln2 (cap-st2),Vd s2.off,Vd s2.val,Va s2.rd],none⟩,⟨b3,12,[Vs bi (so+(k+st3)) ln3 (cap-st3),Vd s3.off,Vd s3.val,Va s3.rd],none⟩,⟨bd,0,(nats .u8 d2),none⟩])∨(∃d3:List Nat,∃v0:BR,mz=3∧(Got d3 text (ev*0) ev)∧(Got d3 text (ev*1) n)∧(Got d3 text (ev*2) n)∧(Got d3 text (ev*3) n)∧(d3.length=text.length)∧ρ=[(0,Vp be eo),(1,Vs bd 0 text.length text.length),(8,Vp b3 0),(14,Vh text.length),(15,Vs bd n (text.length-n) (text.length-n)),(16,Vh ev),(17,Vs bt to 2048 tcap),(18,Vp b7 0),(20,Vh (4*n+(ev-n))),(6,.slice none 0 0),(7,Value.nilIface),(499,Vh 1),(30,Vh (ev-n))]∧l=[⟨b3,0,[.slice none 0 0,Vd v0.off,Vd v0.val,Va v0.rd],none⟩,⟨b3,4,[Vs bi (so+(k+st1)) ln1 (cap-st1),Vd s1.off,Vd s1.val,Va s1.rd],none⟩,⟨b3,8,[Vs bi (so+(k+st2)) ln2 (cap-st2),Vd s2.off,Vd s2.val,Va s2.rd],none⟩,⟨b3,12,[Vs bi (so+(k+st3)) ln3 (cap-st3),Vd s3.off,Vd s3.val,Va s3.rd],none⟩,⟨bd,0,(nats .u8 d3),none⟩])∨(∃d3:List Nat,∃v0 v1:BR,mz=2∧(Got d3 text (ev*0) ev)∧(Got d3 text (ev*1) ev)∧(Got d3 text (ev*2) n)∧(Got d3 text (ev*3) n)∧(d3.length=text.length)∧ρ=[(0,Vp be eo),(1,Vs bd 0 text.length text.length),(8,Vp b3 0),(14,Vh text.length),(15,Vs bd n (text.length-n) (text.length-n)),(16,Vh ev),(17,Vs bt to 2048 tcap),(18,Vp b7 0),(20,Vh (4*n+(ev-n)+(ev-n))),(6,.slice none 0 0),(7,Value.nilIface),(499,Vh 2),(30,Vh (ev-n))]∧l=[⟨b3,0,[.slice none 0 0,Vd v0.off,Vd v0.val,Va v0.rd],none⟩,⟨b3,4,[.slice none 0 0,Vd v1.off,Vd v1.val,Va v1.rd],none⟩,⟨b3,8,[Vs bi (so+(k+st2)) ln2 (cap-st2),Vd s2.off,Vd s2.val,Va s2.rd],none⟩,⟨b3,12,[Vs bi (so+(k+st3)) ln3 (cap-st3),Vd s3.off,Vd s3.val,Va s3.rd],none⟩,⟨bd,0,(nats .u8 d3),none⟩])∨(∃d3:List Nat,∃v0 v1 v2:BR,mz=1∧(Got d3 text (ev*0) ev)∧(Got d3 text (ev*1) ev)∧(Got d3 text (ev*2) ev)∧(Got d3 text (ev*3) n)∧(d3.length=text.length)∧ρ=[(0,Vp be eo),(1,Vs bd 0 text.length text.length),(8,Vp b3 0),(14,Vh text.length),(15,Vs bd n (text.length-n) (text.length-n)),(16,Vh ev),(17,Vs bt to 2048 tcap),(18,Vp b7 0),(20,Vh (4*n+(ev-n)+(ev-n)+(ev-n))),(6,.slice none 0 0),(7,Value.nilIface),(499,Vh 3),(30,Vh (ev-n))]∧l=[⟨b3,0,[.slice none 0 0,Vd v0.off,Vd v0.val,Va v0.rd],none⟩,⟨b3,4,[.slice none 0 0,Vd v1.off,Vd v1.val,Va v1.rd],none⟩,⟨b3,8,[.slice none 0 0,Vd v2.off,Vd v2.val,Va v2.rd],none⟩,⟨b3,12,[Vs bi (so+(k+st3)) ln3 (cap-st3),Vd s3.off,Vd s3.val,Va s3.rd],none⟩,⟨bd,0,(nats .u8 d3),none⟩])∨(∃d3:List Nat,∃v0 v1 v2 v3:BR,mz=0∧(Got d3 text (ev*0) ev)∧(Got d3 text (ev*1) ev)∧(Got d3 text (ev*2) ev)∧(Got d3 text (ev*3) m3)∧(d3.length=text.length)∧ρ=[(0,Vp be eo),(1,Vs bd 0 text.length text.length),(8,Vp b3 0),(14,Vh text.length),(15,Vs bd n (text.length-n) (text.length-n)),(16,Vh ev),(17,Vs bt to 2048 tcap),(18,Vp b7 0),(20,Vh text.length),(6,.slice none 0 0),(7,Value.nilIface),(499,Vh 4),(30,Vh (ev-n))]∧l=[⟨b3,0,[.slice none 0 0,Vd v0.off,Vd v0.val,Va v0.rd],none⟩,⟨b3,4,[.slice none 0 0,Vd v1.off,Vd v1.val,Va v1.rd],none⟩,⟨b3,8,[.slice none 0 0,Vd v2.off,Vd v2.val,Va v2.rd],none⟩,⟨b3,12,[.slice none 0 0,Vd v3.off,Vd v3.val,Va v3.rd],none⟩,⟨bd,0,(nats .u8 d3),none⟩])) (Or.inl ⟨rfl,hF0,hF1,hF2,hF3,hd2,rfl,rfl⟩) ?_
 rintro _ _ _ (⟨rfl,hH0,hH1,hH2,hH3,hd3,rfl,rfl⟩|⟨d3,v0,rfl,hH0,hH1,hH2,hH3,hd3,rfl,rfl⟩|⟨d3,v0,v1,rfl,hH0,hH1,hH2,hH3,hd3,rfl,rfl⟩|⟨d3,v0,v1,v2,rfl,hH0,hH1,hH2,hH3,hd3,rfl,rfl⟩|⟨d3,v0,v1,v2,v3,rfl,hH0,hH1,hH2,hH3,hd3,rfl,rfl⟩)
 refine Y5 ?_
 refine Yy (Zlt 0 4) ?_
 refine Z4 ?_
 refine G.condDT rfl Od ?_
 refine Z7 (G.seq (G.block (Y5 ?_)))
 refine Y2 ?_
 refine Yy (ZmulNh ev 0) ?_
 refine Y2 ?_
 refine Yy (ZaddNh (ev*0) (ev-n)) ?_
 refine Y3 ?_
 refine Yy (Zlen un_22) ?_
 refine Yy (Zgt ((ev*0)+(ev-n)) (text.length-n)) ?_
 refine Zn ?_
 refine G.meetK (fun ρ l=>∃en:Nat,(en=ev*0+(ev-n))∧ρ=[(0,Vp be eo),(1,Vs bd 0 text.length text.length),(6,.slice none 0 0),(7,Value.nilIface),(8,Vp b3 0),(14,Vh text.length),(15,Vs bd n (text.length-n) (text.length-n)),(16,Vh ev),(17,Vs bt to 2048 tcap),(18,Vp b7 0),(20,Vh (4*n)),(30,Vh (ev-n)),(31,Vh 0),(32,Vh (ev*0)),(499,Vh 0),(33,Vh en)]∧l=[⟨b3,0,[Vs bi (so+(k+6)) ln0 (cap-6),Vd s0.off,Vd s0.val,Va s0.rd],none⟩,⟨b3,4,[Vs bi (so+(k+st1)) ln1 (cap-st1),Vd s1.off,Vd s1.val,Va s1.rd],none⟩,⟨b3,8,[Vs bi (so+(k+st2)) ln2 (cap-st2),Vd s2.off,Vd s2.val,Va s2.rd],none⟩,⟨b3,12,[Vs bi (so+(k+st3)) ln3 (cap-st3),Vd s3.off,Vd s3.val,Va s3.rd],none⟩,⟨bd,0,(nats .u8 d2),none⟩]) ?_ ?_
 refine Zc (fun h13=>?_) (fun h13=>?_)
 refine YG ?_
 refine Yy (Zlen un_22) ?_
 refine GL.nil ?_
 exact Zm ⟨_,Om,rfl,rfl⟩ (hs:=rfl)
 refine G.skip ?_
 exact Zm ⟨_,Om,rfl,rfl⟩ (hs:=rfl)
 rintro _ _ ⟨en,hen,rfl,rfl⟩
 refine GQ.thenN (Y5 ?_)
 refine Yy (Zxa 0 0 ae_122) ?_
 refine Y2 ?_
 refine Zcc [0] [] (k_rem_Shifted (Vs bi (so+(k+6)) ln0 (cap-6)) b3 0 none s0 hR0 Om) rfl ?_
 refine Ya ?_
 refine Z4 (G.block ?_)
 refine Zo (fun mz ρ l=>∃s7:BR,∃ds7:List Nat,∃e:Nat,mz=ev-n-e∧(RdT xs (k+6) ln0 cd S s7 (sub text (ev*0+n+e) (ev-n-e)))∧(n+e≤ev)∧(Got ds7 text (ev*0) (n+e))∧(Got ds7 text (ev*1) n)∧(Got ds7 text (ev*2) n)∧(Got ds7 text (ev*3) n)∧(ds7.length=text.length)∧ρ=[(0,Vp be eo),(1,Vs bd 0 text.length text.length),(8,Vp b3 0),(14,Vh text.length),(15,Vs bd n (text.length-n) (text.length-n)),(16,Vh ev),(17,Vs bt to 2048 tcap),(18,Vp b7 0),(20,Vh (4*n)),(6,.slice none 0 0),(7,Value.nilIface),(30,Vh (ev-n)),(31,Vh 0),(499,Vh 0),(32,Vh ((ev*0)+e)),(33,Vh en),(34,Vp b3 0),(35,Vd (tN cd (sub text (ev*0+n+e) (ev-n-e))))]∧l=[⟨b3,0,[Vs bi (so+(k+6)) ln0 (cap-6),Vd s7.off,Vd s7.val,Va s7.rd],none⟩,⟨b3,4,[Vs bi (so+(k+st1)) ln1 (cap-st1),Vd s1.off,Vd s1.val,Va s1.rd],none⟩,⟨b3,8,[Vs bi (so+(k+st2)) ln2 (cap-st2),Vd s2.off,Vd s2.val,Va s2.rd],none⟩,⟨b3,12,[Vs bi (so+(k+st3)) ln3 (cap-st3),Vd s3.off,Vd s3.val,Va s3.rd],none⟩,⟨bd,0,(nats .u8 ds7),none⟩]) ⟨s0,d2,0,rfl,hR0,Om,hH0,hH1,hH2,hH3,hd3,rfl,rfl⟩ ?_
 rintro _ _ _ ⟨s7,ds7,e,rfl,hR7,he7,hB0,hB1,hB2,hB3,hd7,rfl,rfl⟩
 have hk7:=hR7.pos.ok
 have hv7:=hk7.val
 have hl7:=hR7.left
 have hq7:=hR7.leS hT hL11 Om
 refine Y6 ?_
 refine Yy (Zgt (tN cd (sub text (ev*0+n+e) (ev-n-e))) 0) ?_
 refine Zn ?_
 refine Zc (fun h14=>?_) (fun h14=>?_)
 refine Z7 (G.block (Y5 ?_))
 refine Zcp [0] [6] (Con.some' (fun s'=>RdT xs (k+6) ln0 cd S s' (sub text (ev*0+n+e) (ev-n-e))∧(s'.rd≤32∨s'.off=0)∧s'.off≤s7.off) (c_fill_Shifted bi so shi xs (k+6) ln0 (cap-6) Om Om Om b3 0 none s7 Oa Oa Om Om) (RdT.fill hR7 Oa Om Om)) rfl ?_
 rintro _ _ ⟨rfl,s15,⟨hR16,hfs15,hos15⟩,rfl⟩
 have hks15:=hR16.pos.ok
 have hls15:=hR16.left
 have hvs15:=hks15.val
 refine Y3 ?_
 refine Yy (Zge ((ev*0)+e) en) ?_
 refine Zn ?_
 refine Zc (fun h17=>?_) (fun h17=>?_)
 exfalso;omega
 refine Y8 ?_
 refine Yy (Zf fo_119_1) ?_
 refine Yr (Zk 0 1 ag_5) ?_
 obtain⟨cc0_7,n18,p19,hcc0_7,hpp19,hep19,hvp19,hcp19,hap19,hbp19,hrp19,htp19,hN20⟩:=hR16.getS hT hb Om Om
 refine Zcc [0] [] (k_peek (Vs bi (so+(k+6)) ln0 (cap-6)) _ b3 0 none s15 Oa L Om Om hpp19) rfl ?_
 refine Ya ?_
 refine Y2 ?_
 refine Yy (y_congr (ZandNb p19 2047) (congrArg (fun q:Nat=>Value.int .u16 (q:Int)) (and_low (m:=p19) (k:=11) Om))) ?_
 refine Yy (Zx (to+p19) p19 se_81) ?_
 refine Yy (Zf fo_115_0) ?_
 refine Yr (Zkc 1 p19 ag_78 rfl (nats_getE Om hep19)) ?_
 refine Y2 ?_
 refine Yy (Zq n18 (ZcvWa (n18+256*cc0_7) un_78 un_5)) ?_
 refine Y2 ?_
 refine Zcp [0] [] (Con.some' (fun s'=>RdT xs (k+6) ln0 cd S s' (sub text (ev*0+n+e+1) (ev-n-e-1))∧s'.rd=s15.rd+n18∧s'.off=s15.off) (c_advance_Shifted (Vs bi (so+(k+6)) ln0 (cap-6)) _ b3 0 none s15 Oa n18 Om) ⟨hN20,adv_rd Om,rfl⟩) rfl ?_
 rintro _ _ ⟨rfl,s21,⟨hR22,hds21,hos21⟩,rfl⟩
 have hks21:=hR22.pos.ok
 have hls21:=hR22.left
 have hvs21:=hks21.val
 refine Y2 ?_
 refine Yy (ZcvNd n18 un_5 un_39) ?_
 refine Yy (Zq (tN cd (sub text (ev*0+n+e+1) (ev-n-e-1))) (ZsubNd (tN cd (sub text (ev*0+n+e) (ev-n-e))) n18)) ?_
 refine Y2 ?_
 refine Yy (Zq cc0_7 (ZshrNb (n18+256*cc0_7) 8)) ?_
 refine Yy (ZcvNa cc0_7 un_78 un_5) ?_
 refine Yy (Zx (n+((ev*0)+e)) ((ev*0)+e) se_22) ?_
 refine Ys (Zsu 4 (n+((ev*0)+e)) sz_5) ?_
 refine Zn ?_
 have hW0:=Got.put (c:=cc0_7) (p:=n+(ev*0+e)) hB0 Om (by rw[hcc0_7];congr 1;omega) Om
 have hW1:=Got.set (c:=cc0_7) (p:=n+(ev*0+e)) hB1 Om (by rw[hcc0_7];congr 1;omega)
 have hW2:=Got.set (c:=cc0_7) (p:=n+(ev*0+e)) hB2 Om (by rw[hcc0_7];congr 1;omega)
 have hW3:=Got.set (c:=cc0_7) (p:=n+(ev*0+e)) hB3 Om (by rw[hcc0_7];congr 1;omega)
 refine YG ?_
 refine Yy (ZaddNh ((ev*0)+e) 1) ?_
 refine GL.nil (GQ.blockN ?_)
 exact Zb ⟨s21,_,(e+1),rfl,hR22.at_eq Om Om,Om,hW0,hW1,hW2,hW3,by simp[hd7],rfl,rfl⟩ (hs:=rfl)
 refine G.exit (GQ.thenE (GQ.thenE (GQ.blockE (GQ.thenN (Y6 ?_)))))
 refine Yy (Zne ((ev*0)+e) en) ?_
 refine Zn ?_
 refine Zc (fun h23=>?_) (fun h23=>?_)
 exfalso;omega
 refine Y8 ?_
 refine Yy (ZmulNh ev 0) ?_
 refine Yy (ZsubNh ((ev*0)+e) (ev*0)) ?_
 refine Yy (Zq (4*n+(ev-n)) (ZaddNh (4*n) (((ev*0)+e)-(ev*0)))) ?_
 refine Z4 ?_
 have h0:s7.off=0:=Om
 have h64:s7.rd=64:=Om
 refine YG ?_
 refine Zcc [0] [] (c_close_Shifted (Vs bi (so+(k+6)) ln0 (cap-6)) _ b3 0 none s7 Oa Oa Oa Om) rfl ?_
 refine Ya ?_
 refine Y2 ?_
 refine Yy (y_neNilNil rfl rfl un_52) ?_
 refine Zn (G.condF rfl (G.skip (GQ.blockN (GQ.thenN (YG ?_)))))
 refine Yy (Zq 1 (ZaddNh 0 1) Od) ?_
 refine GL.nil ?_
 exact Zb (Or.inr (Or.inl ⟨ds7,s7,rfl,(hB0.at_eq rfl Om),hB1,hB2,hB3,hd7,rfl,rfl⟩)) Od
 refine Y5 ?_
 refine Yy (Zlt 1 4) ?_
 refine Z4 ?_
 refine G.condDT rfl Od ?_
 refine Z7 (G.seq (G.block (Y5 ?_)))
 refine Y2 ?_
 refine Yy (ZmulNh ev 1) ?_
 refine Y2 ?_
 refine Yy (ZaddNh (ev*1) (ev-n)) ?_
 refine Y3 ?_
 refine Yy (Zlen un_22) ?_
 refine Yy (Zgt ((ev*1)+(ev-n)) (text.length-n)) ?_
 refine Zn ?_
 refine G.meetK (fun ρ l=>∃en:Nat,(en=ev*1+(ev-n))∧ρ=[(0,Vp be eo),(1,Vs bd 0 text.length text.length),(6,.slice none 0 0),(7,Value.nilIface),(8,Vp b3 0),(14,Vh text.length),(15,Vs bd n (text.length-n) (text.length-n)),(16,Vh ev),(17,Vs bt to 2048 tcap),(18,Vp b7 0),(20,Vh (4*n+(ev-n))),(30,Vh (ev-n)),(31,Vh 1),(32,Vh (ev*1)),(499,Vh 1),(33,Vh en)]∧l=[⟨b3,0,[.slice none 0 0,Vd v0.off,Vd v0.val,Va v0.rd],none⟩,⟨b3,4,[Vs bi (so+(k+st1)) ln1 (cap-st1),Vd s1.off,Vd s1.val,Va s1.rd],none⟩,⟨b3,8,[Vs bi (so+(k+st2)) ln2 (cap-st2),Vd s2.off,Vd s2.val,Va s2.rd],none⟩,⟨b3,12,[Vs bi (so+(k+st3)) ln3 (cap-st3),Vd s3.off,Vd s3.val,Va s3.rd],none⟩,⟨bd,0,(nats .u8 d3),none⟩]) ?_ ?_
 refine Zc (fun h24=>?_) (fun h24=>?_)
 refine YG ?_
 refine Yy (Zlen un_22) ?_
 refine GL.nil ?_
 exact Zm ⟨_,Om,rfl,rfl⟩ (hs:=rfl)
 refine G.skip ?_
 exact Zm ⟨_,Om,rfl,rfl⟩ (hs:=rfl)
 rintro _ _ ⟨en,hen,rfl,rfl⟩
 refine GQ.thenN (Y5 ?_)
 refine Yy (Zxa 4 1 ae_122) ?_
 refine Y2 ?_
 refine Zcc [1] [] (k_rem_Shifted (Vs bi (so+(k+st1)) ln1 (cap-st1)) b3 4 none s1 hR1 Om) rfl ?_
 refine Ya ?_
 refine Z4 (G.block ?_)
 refine G.pick [1,0,0,0,0] rfl ?_
 refine Zo (fun mz ρ l=>∃s7:BR,∃ds7:List Nat,∃e:Nat,mz=ev-n-e∧(RdT xs (k+st1) ln1 cd S s7 (sub text (ev*1+n+e) (ev-n-e)))∧(n+e≤ev)∧(Got ds7 text (ev*0) ev)∧(Got ds7 text (ev*1) (n+e))∧(Got ds7 text (ev*2) n)∧(Got ds7 text (ev*3) n)∧(ds7.length=text.length)∧ρ=[(0,Vp be eo),(1,Vs bd 0 text.length text.length),(8,Vp b3 0),(14,Vh text.length),(15,Vs bd n (text.length-n) (text.length-n)),(16,Vh ev),(17,Vs bt to 2048 tcap),(18,Vp b7 0),(20,Vh (4*n+(ev-n))),(6,.slice none 0 0),(7,Value.nilIface),(30,Vh (ev-n)),(31,Vh 1),(499,Vh 1),(32,Vh ((ev*1)+e)),(33,Vh en),(34,Vp b3 4),(35,Vd (tN cd (sub text (ev*1+n+e) (ev-n-e))))]∧l=[⟨b3,0,[.slice none 0 0,Vd v0.off,Vd v0.val,Va v0.rd],none⟩,⟨b3,4,[Vs bi (so+(k+st1)) ln1 (cap-st1),Vd s7.off,Vd s7.val,Va s7.rd],none⟩,⟨b3,8,[Vs bi (so+(k+st2)) ln2 (cap-st2),Vd s2.off,Vd s2.val,Va s2.rd],none⟩,⟨b3,12,[Vs bi (so+(k+st3)) ln3 (cap-st3),Vd s3.off,Vd s3.val,Va s3.rd],none⟩,⟨bd,0,(nats .u8 ds7),none⟩]) ⟨s1,d3,0,rfl,hR1,Om,hH0,hH1,hH2,hH3,hd3,rfl,rfl⟩ ?_
 rintro _ _ _ ⟨s7,ds7,e,rfl,hR7,he7,hB0,hB1,hB2,hB3,hd7,rfl,rfl⟩
 have hk7:=hR7.pos.ok
 have hv7:=hk7.val
 have hl7:=hR7.left
 have hq7:=hR7.leS hT hL11 Om
 refine Y6 ?_
 refine Yy (Zgt (tN cd (sub text (ev*1+n+e) (ev-n-e))) 0) ?_
 refine Zn ?_
 refine Zc (fun h25=>?_) (fun h25=>?_)
 refine Z7 (G.block (Y5 ?_))
 refine Zcp [1] [6] (Con.some' (fun s'=>RdT xs (k+st1) ln1 cd S s' (sub text (ev*1+n+e) (ev-n-e))∧(s'.rd≤32∨s'.off=0)∧s'.off≤s7.off) (c_fill_Shifted bi so shi xs (k+st1) ln1 (cap-st1) Om Om Om b3 4 none s7 Oa Oa Om Om) (RdT.fill hR7 Oa Om Om)) rfl ?_
 rintro _ _ ⟨rfl,s26,⟨hR27,hfs26,hos26⟩,rfl⟩
 have hks26:=hR27.pos.ok
 have hls26:=hR27.left
 have hvs26:=hks26.val
 refine Y3 ?_
 refine Yy (Zge ((ev*1)+e) en) ?_
 refine Zn ?_
 refine Zc (fun h28=>?_) (fun h28=>?_)
 exfalso;omega
 refine Y8 ?_
 refine Yy (Zf fo_119_1) ?_
 refine Yr (Zk 0 1 ag_5) ?_
 obtain⟨cc1_7,n29,p30,hcc1_7,hpp30,hep30,hvp30,hcp30,hap30,hbp30,hrp30,htp30,hN31⟩:=hR27.getS hT hb Om Om
 refine Zcc [0] [] (k_peek (Vs bi (so+(k+st1)) ln1 (cap-st1)) _ b3 4 none s26 Oa L Om Om hpp30) rfl ?_
 refine Ya ?_
 refine Y2 ?_
 refine Yy (y_congr (ZandNb p30 2047) (congrArg (fun q:Nat=>Value.int .u16 (q:Int)) (and_low (m:=p30) (k:=11) Om))) ?_
 refine Yy (Zx (to+p30) p30 se_81) ?_
 refine Yy (Zf fo_115_0) ?_
 refine Yr (Zkc 1 p30 ag_78 rfl (nats_getE Om hep30)) ?_
 refine Y2 ?_
 refine Yy (Zq n29 (ZcvWa (n29+256*cc1_7) un_78 un_5)) ?_
 refine Y2 ?_
 refine Zcp [0] [] (Con.some' (fun s'=>RdT xs (k+st1) ln1 cd S s' (sub text (ev*1+n+e+1) (ev-n-e-1))∧s'.rd=s26.rd+n29∧s'.off=s26.off) (c_advance_Shifted (Vs bi (so+(k+st1)) ln1 (cap-st1)) _ b3 4 none s26 Oa n29 Om) ⟨hN31,adv_rd Om,rfl⟩) rfl ?_
 rintro _ _ ⟨rfl,s32,⟨hR33,hds32,hos32⟩,rfl⟩
 have hks32:=hR33.pos.ok
 have hls32:=hR33.left
 have hvs32:=hks32.val
 refine Y2 ?_
 refine Yy (ZcvNd n29 un_5 un_39) ?_
 refine Yy (Zq (tN cd (sub text (ev*1+n+e+1) (ev-n-e-1))) (ZsubNd (tN cd (sub text (ev*1+n+e) (ev-n-e))) n29)) ?_
 refine Y2 ?_
 refine Yy (Zq cc1_7 (ZshrNb (n29+256*cc1_7) 8)) ?_
 refine Yy (ZcvNa cc1_7 un_78 un_5) ?_
 refine Yy (Zx (n+((ev*1)+e)) ((ev*1)+e) se_22) ?_
 refine Ys (Zsu 4 (n+((ev*1)+e)) sz_5) ?_
 refine Zn ?_
 have hW0:=Got.set (c:=cc1_7) (p:=n+(ev*1+e)) hB0 Om (by rw[hcc1_7];congr 1;omega)
 have hW1:=Got.put (c:=cc1_7) (p:=n+(ev*1+e)) hB1 Om (by rw[hcc1_7];congr 1;omega) Om
 have hW2:=Got.set (c:=cc1_7) (p:=n+(ev*1+e)) hB2 Om (by rw[hcc1_7];congr 1;omega)
 have hW3:=Got.set (c:=cc1_7) (p:=n+(ev*1+e)) hB3 Om (by rw[hcc1_7];congr 1;omega)
 refine YG ?_
 refine Yy (ZaddNh ((ev*1)+e) 1) ?_
 refine GL.nil (GQ.blockN ?_)
 refine GQ.pick [1,0,0,0,0] rfl ?_
 exact Zb ⟨s32,_,(e+1),rfl,hR33.at_eq Om Om,Om,hW0,hW1,hW2,hW3,by simp[hd7],rfl,rfl⟩ (hs:=rfl)
 refine G.exit (GQ.thenE (GQ.thenE (GQ.blockE (GQ.thenN (Y6 ?_)))))
 refine Yy (Zne ((ev*1)+e) en) ?_
 refine Zn ?_
 refine Zc (fun h34=>?_) (fun h34=>?_)
 exfalso;omega
 refine Y8 ?_
 refine Yy (ZmulNh ev 1) ?_
 refine Yy (ZsubNh ((ev*1)+e) (ev*1)) ?_
 refine Yy (Zq (4*n+(ev-n)+(ev-n)) (ZaddNh (4*n+(ev-n)) (((ev*1)+e)-(ev*1)))) ?_
 refine Z4 ?_
 have h0:s7.off=0:=Om
 have h64:s7.rd=64:=Om
 refine YG ?_
 refine Zcc [1] [] (c_close_Shifted (Vs bi (so+(k+st1)) ln1 (cap-st1)) _ b3 4 none s7 Oa Oa Oa Om) rfl ?_
 refine Ya ?_
 refine Y2 ?_
 refine Yy (y_neNilNil rfl rfl un_52) ?_
 refine Zn (G.condF rfl (G.skip (GQ.blockN (GQ.thenN (YG ?_)))))
 refine Yy (Zq 2 (ZaddNh 1 1) Od) ?_
 refine GL.nil ?_
 refine GQ.pick [1,0,0,0,0] rfl ?_
 exact Zb (Or.inr (Or.inr (Or.inl ⟨ds7,v0,s7,rfl,hB0,(hB1.at_eq rfl Om),hB2,hB3,hd7,rfl,rfl⟩))) Od
 refine Y5 ?_
 refine Yy (Zlt 2 4) ?_
 refine Z4 ?_
 refine G.condDT rfl Od ?_
 refine Z7 (G.seq (G.block (Y5 ?_)))
 refine Y2 ?_
 refine Yy (ZmulNh ev 2) ?_
 refine Y2 ?_
 refine Yy (ZaddNh (ev*2) (ev-n)) ?_
 refine Y3 ?_
 refine Yy (Zlen un_22) ?_
 refine Yy (Zgt ((ev*2)+(ev-n)) (text.length-n)) ?_
 refine Zn ?_
 refine G.meetK (fun ρ l=>∃en:Nat,(en=ev*2+(ev-n))∧ρ=[(0,Vp be eo),(1,Vs bd 0 text.length text.length),(6,.slice none 0 0),(7,Value.nilIface),(8,Vp b3 0),(14,Vh text.length),(15,Vs bd n (text.length-n) (text.length-n)),(16,Vh ev),(17,Vs bt to 2048 tcap),(18,Vp b7 0),(20,Vh (4*n+(ev-n)+(ev-n))),(30,Vh (ev-n)),(31,Vh 2),(32,Vh (ev*2)),(499,Vh 2),(33,Vh en)]∧l=[⟨b3,0,[.slice none 0 0,Vd v0.off,Vd v0.val,Va v0.rd],none⟩,⟨b3,4,[.slice none 0 0,Vd v1.off,Vd v1.val,Va v1.rd],none⟩,⟨b3,8,[Vs bi (so+(k+st2)) ln2 (cap-st2),Vd s2.off,Vd s2.val,Va s2.rd],none⟩,⟨b3,12,[Vs bi (so+(k+st3)) ln3 (cap-st3),Vd s3.off,Vd s3.val,Va s3.rd],none⟩,⟨bd,0,(nats .u8 d3),none⟩]) ?_ ?_
 refine Zc (fun h35=>?_) (fun h35=>?_)
 refine YG ?_
 refine Yy (Zlen un_22) ?_
 refine GL.nil ?_
 exact Zm ⟨_,Om,rfl,rfl⟩ (hs:=rfl)
 refine G.skip ?_
 exact Zm ⟨_,Om,rfl,rfl⟩ (hs:=rfl)
 rintro _ _ ⟨en,hen,rfl,rfl⟩
 refine GQ.thenN (Y5 ?_)
 refine Yy (Zxa 8 2 ae_122) ?_
 refine Y2 ?_
 refine Zcc [2] [] (k_rem_Shifted (Vs bi (so+(k+st2)) ln2 (cap-st2)) b3 8 none s2 hR2 Om) rfl ?_
 refine Ya ?_
 refine Z4 (G.block ?_)
 refine G.pick [1,1,0,0,0] rfl ?_
 refine Zo (fun mz ρ l=>∃s7:BR,∃ds7:List Nat,∃e:Nat,mz=ev-n-e∧(RdT xs (k+st2) ln2 cd S s7 (sub text (ev*2+n+e) (ev-n-e)))∧(n+e≤ev)∧(Got ds7 text (ev*0) ev)∧(Got ds7 text (ev*1) ev)∧(Got ds7 text (ev*2) (n+e))∧(Got ds7 text (ev*3) n)∧(ds7.length=text.length)∧ρ=[(0,Vp be eo),(1,Vs bd 0 text.length text.length),(8,Vp b3 0),(14,Vh text.length),(15,Vs bd n (text.length-n) (text.length-n)),(16,Vh ev),(17,Vs bt to 2048 tcap),(18,Vp b7 0),(20,Vh (4*n+(ev-n)+(ev-n))),(6,.slice none 0 0),(7,Value.nilIface),(30,Vh (ev-n)),(31,Vh 2),(499,Vh 2),(32,Vh ((ev*2)+e)),(33,Vh en),(34,Vp b3 8),(35,Vd (tN cd (sub text (ev*2+n+e) (ev-n-e))))]∧l=[⟨b3,0,[.slice none 0 0,Vd v0.off,Vd v0.val,Va v0.rd],none⟩,⟨b3,4,[.slice none 0 0,Vd v1.off,Vd v1.val,Va v1.rd],none⟩,⟨b3,8,[Vs bi (so+(k+st2)) ln2 (cap-st2),Vd s7.off,Vd s7.val,Va s7.rd],none⟩,⟨b3,12,[Vs bi (so+(k+st3)) ln3 (cap-st3),Vd s3.off,Vd s3.val,Va s3.rd],none⟩,⟨bd,0,(nats .u8 ds7),none⟩]) ⟨s2,d3,0,rfl,hR2,Om,hH0,hH1,hH2,hH3,hd3,rfl,rfl⟩ ?_
 rintro _ _ _ ⟨s7,ds7,e,rfl,hR7,he7,hB0,hB1,hB2,hB3,hd7,rfl,rfl⟩
 have hk7:=hR7.pos.ok
 have hv7:=hk7.val
 have hl7:=hR7.left
 have hq7:=hR7.leS hT hL11 Om
 refine Y6 ?_
 refine Yy (Zgt (tN cd (sub text (ev*2+n+e) (ev-n-e))) 0) ?_
 refine Zn ?_
 refine Zc (fun h36=>?_) (fun h36=>?_)
 refine Z7 (G.block (Y5 ?_))
 refine Zcp [2] [6] (Con.some' (fun s'=>RdT xs (k+st2) ln2 cd S s' (sub text (ev*2+n+e) (ev-n-e))∧(s'.rd≤32∨s'.off=0)∧s'.off≤s7.off) (c_fill_Shifted bi so shi xs (k+st2) ln2 (cap-st2) Om Om Om b3 8 none s7 Oa Oa Om Om) (RdT.fill hR7 Oa Om Om)) rfl ?_
 rintro _ _ ⟨rfl,s37,⟨hR38,hfs37,hos37⟩,rfl⟩
 have hks37:=hR38.pos.ok
 have hls37:=hR38.left
 have hvs37:=hks37.val
 refine Y3 ?_
 refine Yy (Zge ((ev*2)+e) en) ?_
 refine Zn ?_
 refine Zc (fun h39=>?_) (fun h39=>?_)
 exfalso;omega
 refine Y8 ?_
 refine Yy (Zf fo_119_1) ?_
 refine Yr (Zk 0 1 ag_5) ?_
 obtain⟨cc2_7,n40,p41,hcc2_7,hpp41,hep41,hvp41,hcp41,hap41,hbp41,hrp41,htp41,hN42⟩:=hR38.getS hT hb Om Om
 refine Zcc [0] [] (k_peek (Vs bi (so+(k+st2)) ln2 (cap-st2)) _ b3 8 none s37 Oa L Om Om hpp41) rfl ?_
 refine Ya ?_
 refine Y2 ?_
 refine Yy (y_congr (ZandNb p41 2047) (congrArg (fun q:Nat=>Value.int .u16 (q:Int)) (and_low (m:=p41) (k:=11) Om))) ?_
 refine Yy (Zx (to+p41) p41 se_81) ?_
 refine Yy (Zf fo_115_0) ?_
 refine Yr (Zkc 1 p41 ag_78 rfl (nats_getE Om hep41)) ?_
 refine Y2 ?_
 refine Yy (Zq n40 (ZcvWa (n40+256*cc2_7) un_78 un_5)) ?_
 refine Y2 ?_
 refine Zcp [0] [] (Con.some' (fun s'=>RdT xs (k+st2) ln2 cd S s' (sub text (ev*2+n+e+1) (ev-n-e-1))∧s'.rd=s37.rd+n40∧s'.off=s37.off) (c_advance_Shifted (Vs bi (so+(k+st2)) ln2 (cap-st2)) _ b3 8 none s37 Oa n40 Om) ⟨hN42,adv_rd Om,rfl⟩) rfl ?_
 rintro _ _ ⟨rfl,s43,⟨hR44,hds43,hos43⟩,rfl⟩
 have hks43:=hR44.pos.ok
 have hls43:=hR44.left
 have hvs43:=hks43.val
 refine Y2 ?_
 refine Yy (ZcvNd n40 un_5 un_39) ?_
 refine Yy (Zq (tN cd (sub text (ev*2+n+e+1) (ev-n-e-1))) (ZsubNd (tN cd (sub text (ev*2+n+e) (ev-n-e))) n40)) ?_
 refine Y2 ?_
 refine Yy (Zq cc2_7 (ZshrNb (n40+256*cc2_7) 8)) ?_
 refine Yy (ZcvNa cc2_7 un_78 un_5) ?_
 refine Yy (Zx (n+((ev*2)+e)) ((ev*2)+e) se_22) ?_
 refine Ys (Zsu 4 (n+((ev*2)+e)) sz_5) ?_
 refine Zn ?_
 have hW0:=Got.set (c:=cc2_7) (p:=n+(ev*2+e)) hB0 Om (by rw[hcc2_7];congr 1;omega)
 have hW1:=Got.set (c:=cc2_7) (p:=n+(ev*2+e)) hB1 Om (by rw[hcc2_7];congr 1;omega)
 have hW2:=Got.put (c:=cc2_7) (p:=n+(ev*2+e)) hB2 Om (by rw[hcc2_7];congr 1;omega) Om
 have hW3:=Got.set (c:=cc2_7) (p:=n+(ev*2+e)) hB3 Om (by rw[hcc2_7];congr 1;omega)
 refine YG ?_
 refine Yy (ZaddNh ((ev*2)+e) 1) ?_
 refine GL.nil (GQ.blockN ?_)
 refine GQ.pick [1,1,0,0,0] rfl ?_
 exact Zb ⟨s43,_,(e+1),rfl,hR44.at_eq Om Om,Om,hW0,hW1,hW2,hW3,by simp[hd7],rfl,rfl⟩ (hs:=rfl)
 refine G.exit (GQ.thenE (GQ.thenE (GQ.blockE (GQ.thenN (Y6 ?_)))))
 refine Yy (Zne ((ev*2)+e) en) ?_
 refine Zn ?_
 refine Zc (fun h45=>?_) (fun h45=>?_)
 exfalso;omega
 refine Y8 ?_
 refine Yy (ZmulNh ev 2) ?_
 refine Yy (ZsubNh ((ev*2)+e) (ev*2)) ?_
 refine Yy (Zq (4*n+(ev-n)+(ev-n)+(ev-n)) (ZaddNh (4*n+(ev-n)+(ev-n)) (((ev*2)+e)-(ev*2)))) ?_
 refine Z4 ?_
 have h0:s7.off=0:=Om
 have h64:s7.rd=64:=Om
 refine YG ?_
 refine Zcc [2] [] (c_close_Shifted (Vs bi (so+(k+st2)) ln2 (cap-st2)) _ b3 8 none s7 Oa Oa Oa Om) rfl ?_
 refine Ya ?_
 refine Y2 ?_
 refine Yy (y_neNilNil rfl rfl un_52) ?_
 refine Zn (G.condF rfl (G.skip (GQ.blockN (GQ.thenN (YG ?_)))))
 refine Yy (Zq 3 (ZaddNh 2 1) Od) ?_
 refine GL.nil ?_
 refine GQ.pick [1,1,0,0,0] rfl ?_
 exact Zb (Or.inr (Or.inr (Or.inr (Or.inl ⟨ds7,v0,v1,s7,rfl,hB0,hB1,(hB2.at_eq rfl Om),hB3,hd7,rfl,rfl⟩)))) Od
 refine Y5 ?_
 refine Yy (Zlt 3 4) ?_
 refine Z4 ?_
 refine G.condDT rfl Od ?_
 refine Z7 (G.seq (G.block (Y5 ?_)))
 refine Y2 ?_
 refine Yy (ZmulNh ev 3) ?_
 refine Y2 ?_
 refine Yy (ZaddNh (ev*3) (ev-n)) ?_
 refine Y3 ?_
 refine Yy (Zlen un_22) ?_
 refine Yy (Zgt ((ev*3)+(ev-n)) (text.length-n)) ?_
 refine Zn ?_
 refine G.meetK (fun ρ l=>∃en:Nat,(en=ev*3+(m3-n))∧ρ=[(0,Vp be eo),(1,Vs bd 0 text.length text.length),(6,.slice none 0 0),(7,Value.nilIface),(8,Vp b3 0),(14,Vh text.length),(15,Vs bd n (text.length-n) (text.length-n)),(16,Vh ev),(17,Vs bt to 2048 tcap),(18,Vp b7 0),(20,Vh (4*n+(ev-n)+(ev-n)+(ev-n))),(30,Vh (ev-n)),(31,Vh 3),(32,Vh (ev*3)),(499,Vh 3),(33,Vh en)]∧l=[⟨b3,0,[.slice none 0 0,Vd v0.off,Vd v0.val,Va v0.rd],none⟩,⟨b3,4,[.slice none 0 0,Vd v1.off,Vd v1.val,Va v1.rd],none⟩,⟨b3,8,[.slice none 0 0,Vd v2.off,Vd v2.val,Va v2.rd],none⟩,⟨b3,12,[Vs bi (so+(k+st3)) ln3 (cap-st3),Vd s3.off,Vd s3.val,Va s3.rd],none⟩,⟨bd,0,(nats .u8 d3),none⟩]) ?_ ?_
 refine Zc (fun h46=>?_) (fun h46=>?_)
 refine YG ?_
 refine Yy (Zlen un_22) ?_
 refine GL.nil ?_
 exact Zm ⟨_,Om,rfl,rfl⟩ (hs:=rfl)
 refine G.skip ?_
 exact Zm ⟨_,Om,rfl,rfl⟩ (hs:=rfl)
 rintro _ _ ⟨en,hen,rfl,rfl⟩
 refine GQ.thenN (Y5 ?_)
 refine Yy (Zxa 12 3 ae_122) ?_
 refine Y2 ?_
 refine Zcc [3] [] (k_rem_Shifted (Vs bi (so+(k+st3)) ln3 (cap-st3)) b3 12 none s3 hR3 Om) rfl ?_
 refine Ya ?_
 refine Z4 (G.block ?_)
 refine G.pick [1,1,1,0,0] rfl ?_
 refine Zo (fun mz ρ l=>∃s7:BR,∃ds7:List Nat,∃e:Nat,mz=m3-n-e∧(RdT xs (k+st3) ln3 cd S s7 (sub text (ev*3+n+e) (m3-n-e)))∧(n+e≤m3)∧(Got ds7 text (ev*0) ev)∧(Got ds7 text (ev*1) ev)∧(Got ds7 text (ev*2) ev)∧(Got ds7 text (ev*3) (n+e))∧(ds7.length=text.length)∧ρ=[(0,Vp be eo),(1,Vs bd 0 text.length text.length),(8,Vp b3 0),(14,Vh text.length),(15,Vs bd n (text.length-n) (text.length-n)),(16,Vh ev),(17,Vs bt to 2048 tcap),(18,Vp b7 0),(20,Vh (4*n+(ev-n)+(ev-n)+(ev-n))),(6,.slice none 0 0),(7,Value.nilIface),(30,Vh (ev-n)),(31,Vh 3),(499,Vh 3),(32,Vh ((ev*3)+e)),(33,Vh en),(34,Vp b3 12),(35,Vd (tN cd (sub text (ev*3+n+e) (m3-n-e))))]∧l=[⟨b3,0,[.slice none 0 0,Vd v0.off,Vd v0.val,Va v0.rd],none⟩,⟨b3,4,[.slice none 0 0,Vd v1.off,Vd v1.val,Va v1.rd],none⟩,⟨b3,8,[.slice none 0 0,Vd v2.off,Vd v2.val,Va v2.rd],none⟩,⟨b3,12,[Vs bi (so+(k+st3)) ln3 (cap-st3),Vd s7.off,Vd s7.val,Va s7.rd],none⟩,⟨bd,0,(nats .u8 ds7),none⟩]) ⟨s3,d3,0,rfl,hR3,Om,hH0,hH1,hH2,hH3,hd3,rfl,rfl⟩ ?_
 rintro _ _ _ ⟨s7,ds7,e,rfl,hR7,he7,hB0,hB1,hB2,hB3,hd7,rfl,rfl⟩
 have hk7:=hR7.pos.ok
 have hv7:=hk7.val
 have hl7:=hR7.left
 have hq7:=hR7.leS hT hL11 Om
 refine Y6 ?_
 refine Yy (Zgt (tN cd (sub text (ev*3+n+e) (m3-n-e))) 0) ?_
 refine Zn ?_
 refine Zc (fun h47=>?_) (fun h47=>?_)
 refine Z7 (G.block (Y5 ?_))
 refine Zcp [3] [6] (Con.some' (fun s'=>RdT xs (k+st3) ln3 cd S s' (sub text (ev*3+n+e) (m3-n-e))∧(s'.rd≤32∨s'.off=0)∧s'.off≤s7.off) (c_fill_Shifted bi so shi xs (k+st3) ln3 (cap-st3) Om Om Om b3 12 none s7 Oa Oa Om Om) (RdT.fill hR7 Oa Om Om)) rfl ?_
 rintro _ _ ⟨rfl,s48,⟨hR49,hfs48,hos48⟩,rfl⟩
 have hks48:=hR49.pos.ok
 have hls48:=hR49.left
 have hvs48:=hks48.val
 refine Y3 ?_
 refine Yy (Zge ((ev*3)+e) en) ?_
 refine Zn ?_
 refine Zc (fun h50=>?_) (fun h50=>?_)
 exfalso;omega
 refine Y8 ?_
 refine Yy (Zf fo_119_1) ?_
 refine Yr (Zk 0 1 ag_5) ?_
 obtain⟨cc3_7,n51,p52,hcc3_7,hpp52,hep52,hvp52,hcp52,hap52,hbp52,hrp52,htp52,hN53⟩:=hR49.getS hT hb Om Om
 refine Zcc [0] [] (k_peek (Vs bi (so+(k+st3)) ln3 (cap-st3)) _ b3 12 none s48 Oa L Om Om hpp52) rfl ?_
 refine Ya ?_
 refine Y2 ?_
 refine Yy (y_congr (ZandNb p52 2047) (congrArg (fun q:Nat=>Value.int .u16 (q:Int)) (and_low (m:=p52) (k:=11) Om))) ?_
 refine Yy (Zx (to+p52) p52 se_81) ?_
 refine Yy (Zf fo_115_0) ?_
 refine Yr (Zkc 1 p52 ag_78 rfl (nats_getE Om hep52)) ?_
 refine Y2 ?_
 refine Yy (Zq n51 (ZcvWa (n51+256*cc3_7) un_78 un_5)) ?_
 refine Y2 ?_
 refine Zcp [0] [] (Con.some' (fun s'=>RdT xs (k+st3) ln3 cd S s' (sub text (ev*3+n+e+1) (m3-n-e-1))∧s'.rd=s48.rd+n51∧s'.off=s48.off) (c_advance_Shifted (Vs bi (so+(k+st3)) ln3 (cap-st3)) _ b3 12 none s48 Oa n51 Om) ⟨hN53,adv_rd Om,rfl⟩) rfl ?_
 rintro _ _ ⟨rfl,s54,⟨hR55,hds54,hos54⟩,rfl⟩
 have hks54:=hR55.pos.ok
 have hls54:=hR55.left
 have hvs54:=hks54.val
 refine Y2 ?_
 refine Yy (ZcvNd n51 un_5 un_39) ?_
 refine Yy (Zq (tN cd (sub text (ev*3+n+e+1) (m3-n-e-1))) (ZsubNd (tN cd (sub text (ev*3+n+e) (m3-n-e))) n51)) ?_
 refine Y2 ?_
 refine Yy (Zq cc3_7 (ZshrNb (n51+256*cc3_7) 8)) ?_
 refine Yy (ZcvNa cc3_7 un_78 un_5) ?_
 refine Yy (Zx (n+((ev*3)+e)) ((ev*3)+e) se_22) ?_
 refine Ys (Zsu 4 (n+((ev*3)+e)) sz_5) ?_
 refine Zn ?_
 have hW0:=Got.set (c:=cc3_7) (p:=n+(ev*3+e)) hB0 Om (by rw[hcc3_7];congr 1;omega)
 have hW1:=Got.set (c:=cc3_7) (p:=n+(ev*3+e)) hB1 Om (by rw[hcc3_7];congr 1;omega)
 have hW2:=Got.set (c:=cc3_7) (p:=n+(ev*3+e)) hB2 Om (by rw[hcc3_7];congr 1;omega)
 have hW3:=Got.put (c:=cc3_7) (p:=n+(ev*3+e)) hB3 Om (by rw[hcc3_7];congr 1;omega) Om
 refine YG ?_
 refine Yy (ZaddNh ((ev*3)+e) 1) ?_
 refine GL.nil (GQ.blockN ?_)
 refine GQ.pick [1,1,1,0,0] rfl ?_
 exact Zb ⟨s54,_,(e+1),rfl,hR55.at_eq Om Om,Om,hW0,hW1,hW2,hW3,by simp[hd7],rfl,rfl⟩ (hs:=rfl)
 refine G.exit (GQ.thenE (GQ.thenE (GQ.blockE (GQ.thenN (Y6 ?_)))))
 refine Yy (Zne ((ev*3)+e) en) ?_
 refine Zn ?_
 refine Zc (fun h56=>?_) (fun h56=>?_)
 exfalso;omega
 refine Y8 ?_
 refine Yy (ZmulNh ev 3) ?_
 refine Yy (ZsubNh ((ev*3)+e) (ev*3)) ?_
 refine Yy (Zq text.length (ZaddNh (4*n+(ev-n)+(ev-n)+(ev-n)) (((ev*3)+e)-(ev*3)))) ?_
 refine Z4 ?_
 have h0:s7.off=0:=Om
 have h64:s7.rd=64:=Om
 refine YG ?_
 refine Zcc [3] [] (c_close_Shifted (Vs bi (so+(k+st3)) ln3 (cap-st3)) _ b3 12 none s7 Oa Oa Oa Om) rfl ?_
 refine Ya ?_
 refine Y2 ?_
 refine Yy (y_neNilNil rfl rfl un_52) ?_
 refine Zn (G.condF rfl (G.skip (GQ.blockN (GQ.thenN (YG ?_)))))
 refine Yy (Zq 4 (ZaddNh 3 1) Od) ?_
 refine GL.nil ?_
 refine GQ.pick [1,1,1,0,0] rfl ?_
 exact Zb (Or.inr (Or.inr (Or.inr (Or.inr (⟨ds7,v0,v1,v2,s7,rfl,hB0,hB1,hB2,(hB3.at_eq rfl Om),hd7,rfl,rfl⟩))))) Od
 refine Y5 ?_
 refine Yy (Zlt 4 4) ?_
 refine Z4 ?_
 refine G.condDF rfl Od ?_
 refine G.exit (GQ.thenE (GQ.thenE (GQ.blockE (GQ.thenN (Y5 ?_)))))
 refine Yy (Zf fo_119_2) ?_
 refine Yr (Zk 0 2 ag_117) ?_
 refine Yy (y_mi rfl rfl un_124 rfl) ?_
 refine Zcc [] [] (c_poolPut _ _) rfl ?_
 refine Y3 ?_
 refine Yy (Zne text.length text.length) ?_
 refine Zn ?_
 refine Zc (fun h57=>?_) (fun h57=>?_)
 exfalso;omega
 refine Y8 ?_
 refine Zn (G.ret ?_)
 repeat first|refine ZR ?_|refine ZB ?_
 exact ret2 [4] rfl rfl rfl rfl (⟨some ⟨bd,0,none⟩,bd,0,nats .u8 d3,text.length,rfl,⟨by simp[hd3],.inl rfl⟩,Nat.le_refl _,by rw[got4 hd3 hm3 hH0 hH1 hH2 hH3,List.take_of_length_le Oi],rfl⟩)
 have hw2:=hw hwc
 have hn2:n+2≤m3:=Om
 have hrd0:=hR0.pos.rd
 have hrd1:=hR1.pos.rd
 have hrd2:=hR2.pos.rd
 have hrd3:=hR3.pos.rd
 clear hl0 hl1 hl2 hl3 hq0 hq1 hq2 hq3 hv0 hv1 hv2 hv3
 refine Z7 (Y6 ?_)
 refine Yy (Zxa 0 0 ae_122) ?_
 refine Zcp [0] [10] (Con.some' (fun s'=>RdT xs (k+6) ln0 cd S s' (sub text (ev*0+n) (ev-n))∧s'.rd≤32∧s0.off≤s'.off+4∧s'.off≤s0.off) (c_fillFast_Shifted bi so shi xs (k+6) ln0 (cap-6) Om Om Om b3 0 none s0 Oa Oa Om Om) (RdT.fillFast hR0 Oa Om)) rfl ?_
 rintro _ _ ⟨rfl,s58,⟨hR59,hfs58, -, -⟩,rfl⟩
 have hks58:=hR59.pos.ok
 refine Y2 ?_
 refine Yy (Zxa 4 1 ae_122) ?_
 refine Zcp [1] [10] (Con.some' (fun s'=>RdT xs (k+st1) ln1 cd S s' (sub text (ev*1+n) (ev-n))∧s'.rd≤32∧s1.off≤s'.off+4∧s'.off≤s1.off) (c_fillFast_Shifted bi so shi xs (k+st1) ln1 (cap-st1) Om Om Om b3 4 none s1 Oa Oa Om Om) (RdT.fillFast hR1 Oa Om)) rfl ?_
 rintro _ _ ⟨rfl,s60,⟨hR61,hfs60, -, -⟩,rfl⟩
 have hks60:=hR61.pos.ok
 refine Y2 ?_
 refine Yy (Zxa 0 0 ae_122) ?_
 refine Yy (Zf fo_119_1) ?_
 refine Yr (Zk 0 1 ag_5) ?_
 obtain⟨cc0_0,n62,p63,hcc0_0,hpp63,hep63,hvp63,hcp63, -,hap63,hrp63, -,hN64⟩:=hR59.getS hT hb Om Om
 refine Zcc [1] [] (k_peek (Vs bi (so+(k+6)) ln0 (cap-6)) _ b3 0 none s58 Oa L Om Om hpp63) rfl ?_
 refine Ya ?_
 refine Y2 ?_
 refine Yy (Zxa 4 1 ae_122) ?_
 refine Yy (Zf fo_119_1) ?_
 refine Yr (Zk 0 1 ag_5) ?_
 obtain⟨cc1_0,n65,p66,hcc1_0,hpp66,hep66,hvp66,hcp66, -,hap66,hrp66, -,hN67⟩:=hR61.getS hT hb Om Om
 refine Zcc [1] [] (k_peek (Vs bi (so+(k+st1)) ln1 (cap-st1)) _ b3 4 none s60 Oa L Om Om hpp66) rfl ?_
 refine Ya ?_
 refine Y2 ?_
 refine Yy (y_congr (ZandNb p63 2047) (congrArg (fun q:Nat=>Value.int .u16 (q:Int)) (and_low (m:=p63) (k:=11) Om))) ?_
 refine Yy (Zx (to+p63) p63 se_81) ?_
 refine Yr (r_ldar 1 p63 rfl rfl rfl ag_115 sz_115 rfl (nats_take1E Om hep63) rfl) ?_
 refine Ze (Zal zc_115) fun b68=>?_
 refine Ys (Zsw 0 sz_115) ?_
 refine Y2 ?_
 refine Yy (y_congr (ZandNb p66 2047) (congrArg (fun q:Nat=>Value.int .u16 (q:Int)) (and_low (m:=p66) (k:=11) Om))) ?_
 refine Yy (Zx (to+p66) p66 se_81) ?_
 refine Yr (r_ldar 1 p66 rfl rfl rfl ag_115 sz_115 rfl (nats_take1E Om hep66) rfl) ?_
 refine Ze (Zal zc_115) fun b69=>?_
 refine Ys (Zsw 0 sz_115) ?_
 refine Y2 ?_
 refine Yy (Zxa 0 0 ae_122) ?_
 refine Yy (Zf fo_115_0) ?_
 refine Yr (Zl 1 0 ag_78) ?_
 refine Yy (Zq n62 (ZcvWa (n62+256*cc0_0) un_78 un_5)) ?_
 refine Zcp [3] [] (Con.some' (fun s'=>RdT xs (k+6) ln0 cd S s' (sub text (ev*0+n+1) (ev-n-1))∧s'.rd=s58.rd+n62∧s'.off=s58.off) (c_advance_Shifted (Vs bi (so+(k+6)) ln0 (cap-6)) _ b3 0 none s58 Oa n62 Om) ⟨hN64,adv_rd Om,rfl⟩) rfl ?_
 rintro _ _ ⟨rfl,s70,⟨hR71,hds70,hos70⟩,rfl⟩
 have hks70:=hR71.pos.ok
 have hfs70:s70.rd≤43:=Om
 clear hds70 hos70
 refine Y2 ?_
 refine Yy (Zxa 4 1 ae_122) ?_
 refine Yy (Zf fo_115_0) ?_
 refine Yr (Zl 1 0 ag_78) ?_
 refine Yy (Zq n65 (ZcvWa (n65+256*cc1_0) un_78 un_5)) ?_
 refine Zcp [3] [] (Con.some' (fun s'=>RdT xs (k+st1) ln1 cd S s' (sub text (ev*1+n+1) (ev-n-1))∧s'.rd=s60.rd+n65∧s'.off=s60.off) (c_advance_Shifted (Vs bi (so+(k+st1)) ln1 (cap-st1)) _ b3 4 none s60 Oa n65 Om) ⟨hN67,adv_rd Om,rfl⟩) rfl ?_
 rintro _ _ ⟨rfl,s72,⟨hR73,hds72,hos72⟩,rfl⟩
 have hks72:=hR73.pos.ok
 have hfs72:s72.rd≤43:=Om
 clear hds72 hos72
 refine Z4 ?_
 refine Zg 512 [y_0,y_1,y_2,r_3,y_4,y_5,y_6,y_7,y_8,e_9] ?_
 refine Ypa ?_
 refine Ypy (Zf fo_115_0) ?_
 refine Ypr (Zl 3 0 ag_78) ?_
 refine Ypy (Zq cc0_0 (ZshrNb (n62+256*cc0_0) 8)) ?_
 refine Ypy (ZcvNa cc0_0 un_78 un_5) ?_
 refine Ypy (Zxa 0 0 ae_156) ?_
 refine Ypy (Zxb ob ob ae_89) ?_
 refine Yps (Zsu 6 ob sz_5) ?_
 refine GP.nil (GQ.thenN (G.seq ?_))
 refine Zg 512 [y_0,y_1,y_2,r_3,y_4,y_5,y_6,y_7,y_8,e_9] ?_
 refine Ypa ?_
 refine Ypy (Zf fo_115_0) ?_
 refine Ypr (Zl 2 0 ag_78) ?_
 refine Ypy (Zq cc1_0 (ZshrNb (n65+256*cc1_0) 8)) ?_
 refine Ypy (ZcvNa cc1_0 un_78 un_5) ?_
 refine Ypy (Zxa 256 1 ae_156) ?_
 refine Ypy (Zxb (256+ob) ob ae_89) ?_
 refine Yps (Zsu 7 ob sz_5) ?_
 refine GP.nil (GQ.thenN (G.seq ?_))
 clear hfs58 hfs60 hpp63 hep63 hvp63 hcp63 hap63 hrp63 hpp66 hep66 hvp66 hcp66 hap66 hrp66
 refine YG ?_
 refine Yy (Zxa 0 0 ae_122) ?_
 refine Yy (Zf fo_119_1) ?_
 refine Yr (Zk 0 1 ag_5) ?_
 obtain⟨cc0_1,n74,p75,hcc0_1,hpp75,hep75,hvp75,hcp75, -,hap75,hrp75, -,hN76⟩:=hR71.getS hT hb Om Om
 refine Zcc [1] [] (k_peek (Vs bi (so+(k+6)) ln0 (cap-6)) _ b3 0 none s70 Oa L Om Om hpp75) rfl ?_
 refine Ya ?_
 refine Y2 ?_
 refine Yy (Zxa 4 1 ae_122) ?_
 refine Yy (Zf fo_119_1) ?_
 refine Yr (Zk 0 1 ag_5) ?_
 obtain⟨cc1_1,n77,p78,hcc1_1,hpp78,hep78,hvp78,hcp78, -,hap78,hrp78, -,hN79⟩:=hR73.getS hT hb Om Om
 refine Zcc [1] [] (k_peek (Vs bi (so+(k+st1)) ln1 (cap-st1)) _ b3 4 none s72 Oa L Om Om hpp78) rfl ?_
 refine Ya ?_
 refine Y2 ?_
 refine Yy (y_congr (ZandNb p75 2047) (congrArg (fun q:Nat=>Value.int .u16 (q:Int)) (and_low (m:=p75) (k:=11) Om))) ?_
 refine Yy (Zx (to+p75) p75 se_81) ?_
 refine Yr (r_ldar 1 p75 rfl rfl rfl ag_115 sz_115 rfl (nats_take1E Om hep75) rfl) ?_
 refine Ys (Zsw 3 sz_115) ?_
 refine Y2 ?_
 refine Yy (y_congr (ZandNb p78 2047) (congrArg (fun q:Nat=>Value.int .u16 (q:Int)) (and_low (m:=p78) (k:=11) Om))) ?_
 refine Yy (Zx (to+p78) p78 se_81) ?_
 refine Yr (r_ldar 1 p78 rfl rfl rfl ag_115 sz_115 rfl (nats_take1E Om hep78) rfl) ?_
 refine Ys (Zsw 2 sz_115) ?_
 refine Y2 ?_
 refine Yy (Zxa 0 0 ae_122) ?_
 refine Yy (Zf fo_115_0) ?_
 refine Yr (Zl 3 0 ag_78) ?_
 refine Yy (Zq n74 (ZcvWa (n74+256*cc0_1) un_78 un_5)) ?_
 refine Zcp [1] [] (Con.some' (fun s'=>RdT xs (k+6) ln0 cd S s' (sub text (ev*0+n+1+1) (ev-n-1-1))∧s'.rd=s70.rd+n74∧s'.off=s70.off) (c_advance_Shifted (Vs bi (so+(k+6)) ln0 (cap-6)) _ b3 0 none s70 Oa n74 Om) ⟨hN76,adv_rd Om,rfl⟩) rfl ?_
 rintro _ _ ⟨rfl,s80,⟨hR81,hds80,hos80⟩,rfl⟩
 have hks80:=hR81.pos.ok
 have hfs80:s80.rd≤54:=Om
 clear hds80 hos80
 refine Y2 ?_
 refine Yy (Zxa 4 1 ae_122) ?_
 refine Yy (Zf fo_115_0) ?_
 refine Yr (Zl 2 0 ag_78) ?_
 refine Yy (Zq n77 (ZcvWa (n77+256*cc1_1) un_78 un_5)) ?_
 refine Zcp [1] [] (Con.some' (fun s'=>RdT xs (k+st1) ln1 cd S s' (sub text (ev*1+n+1+1) (ev-n-1-1))∧s'.rd=s72.rd+n77∧s'.off=s72.off) (c_advance_Shifted (Vs bi (so+(k+st1)) ln1 (cap-st1)) _ b3 4 none s72 Oa n77 Om) ⟨hN79,adv_rd Om,rfl⟩) rfl ?_
 rintro _ _ ⟨rfl,s82,⟨hR83,hds82,hos82⟩,rfl⟩
 have hks82:=hR83.pos.ok
 have hfs82:s82.rd≤54:=Om
 clear hds82 hos82
 refine Z4 ?_
 refine Zg 1024 [y_0,y_1,y_2,y_3,r_4,y_5,y_6,y_7,y_8,y_9,e_10] ?_
 refine Ypa ?_
 refine Ypy (ZaddNa ob 1) ?_
 refine Ypy (Zf fo_115_0) ?_
 refine Ypr (Zl 3 0 ag_78) ?_
 refine Ypy (Zq cc0_1 (ZshrNb (n74+256*cc0_1) 8)) ?_
 refine Ypy (ZcvNa cc0_1 un_78 un_5) ?_
 refine Ypy (Zxa 0 0 ae_156) ?_
 refine Ypy (Zxb (ob+1) (ob+1) ae_89) ?_
 refine Yps (Zsu 6 (ob+1) sz_5) ?_
 refine GP.nil (GQ.thenN ?_)
 refine Zg 1024 [y_0,y_1,y_2,y_3,r_4,y_5,y_6,y_7,y_8,y_9,e_10] ?_
 refine Ypa ?_
 refine Ypy (ZaddNa ob 1) ?_
 refine Ypy (Zf fo_115_0) ?_
 refine Ypr (Zl 2 0 ag_78) ?_
 refine Ypy (Zq cc1_1 (ZshrNb (n77+256*cc1_1) 8)) ?_
 refine Ypy (ZcvNa cc1_1 un_78 un_5) ?_
 refine Ypy (Zxa 256 1 ae_156) ?_
 refine Ypy (Zxb (256+(ob+1)) (ob+1) ae_89) ?_
 refine Yps (Zsu 7 (ob+1) sz_5) ?_
 refine GP.nil (GQ.thenN (G.seq (G.seq ?_)))
 clear hfs70 hfs72 hpp75 hep75 hvp75 hcp75 hap75 hrp75 hpp78 hep78 hvp78 hcp78 hap78 hrp78 hfs80 hfs82
 refine YG ?_
 refine Yy (Zxa 8 2 ae_122) ?_
 refine Zcp [4] [12] (Con.some' (fun s'=>RdT xs (k+st2) ln2 cd S s' (sub text (ev*2+n) (ev-n))∧s'.rd≤32∧s2.off≤s'.off+4∧s'.off≤s2.off) (c_fillFast_Shifted bi so shi xs (k+st2) ln2 (cap-st2) Om Om Om b3 8 none s2 Oa Oa Om Om) (RdT.fillFast hR2 Oa Om)) rfl ?_
 rintro _ _ ⟨rfl,s84,⟨hR85,hfs84, -, -⟩,rfl⟩
 have hks84:=hR85.pos.ok
 refine Y2 ?_
 refine Yy (Zxa 12 3 ae_122) ?_
 refine Zcp [5] [12] (Con.some' (fun s'=>RdT xs (k+st3) ln3 cd S s' (sub text (ev*3+n) (m3-n))∧s'.rd≤32∧s3.off≤s'.off+4∧s'.off≤s3.off) (c_fillFast_Shifted bi so shi xs (k+st3) ln3 (cap-st3) Om Om Om b3 12 none s3 Oa Oa Om Om) (RdT.fillFast hR3 Oa Om)) rfl ?_
 rintro _ _ ⟨rfl,s86,⟨hR87,hfs86, -, -⟩,rfl⟩
 have hks86:=hR87.pos.ok
 refine Y2 ?_
 refine Yy (Zxa 8 2 ae_122) ?_
 refine Yy (Zf fo_119_1) ?_
 refine Yr (Zk 0 1 ag_5) ?_
 obtain⟨cc2_0,n88,p89,hcc2_0,hpp89,hep89,hvp89,hcp89, -,hap89,hrp89, -,hN90⟩:=hR85.getS hT hb Om Om
 refine Zcc [1] [] (k_peek (Vs bi (so+(k+st2)) ln2 (cap-st2)) _ b3 8 none s84 Oa L Om Om hpp89) rfl ?_
 refine Ya ?_
 refine Y2 ?_
 refine Yy (Zxa 12 3 ae_122) ?_
 refine Yy (Zf fo_119_1) ?_
 refine Yr (Zk 0 1 ag_5) ?_
 obtain⟨cc3_0,n91,p92,hcc3_0,hpp92,hep92,hvp92,hcp92, -,hap92,hrp92, -,hN93⟩:=hR87.getS hT hb Om Om
 refine Zcc [1] [] (k_peek (Vs bi (so+(k+st3)) ln3 (cap-st3)) _ b3 12 none s86 Oa L Om Om hpp92) rfl ?_
 refine Ya ?_
 refine Y2 ?_
 refine Yy (y_congr (ZandNb p89 2047) (congrArg (fun q:Nat=>Value.int .u16 (q:Int)) (and_low (m:=p89) (k:=11) Om))) ?_
 refine Yy (Zx (to+p89) p89 se_81) ?_
 refine Yr (r_ldar 1 p89 rfl rfl rfl ag_115 sz_115 rfl (nats_take1E Om hep89) rfl) ?_
 refine Ze (Zal zc_115) fun b94=>?_
 refine Ys (Zsw 0 sz_115) ?_
 refine Y2 ?_
 refine Yy (y_congr (ZandNb p92 2047) (congrArg (fun q:Nat=>Value.int .u16 (q:Int)) (and_low (m:=p92) (k:=11) Om))) ?_
 refine Yy (Zx (to+p92) p92 se_81) ?_
 refine Yr (r_ldar 1 p92 rfl rfl rfl ag_115 sz_115 rfl (nats_take1E Om hep92) rfl) ?_
 refine Ze (Zal zc_115) fun b95=>?_
 refine Ys (Zsw 0 sz_115) ?_
 refine Y2 ?_
 refine Yy (Zxa 8 2 ae_122) ?_
 refine Yy (Zf fo_115_0) ?_
 refine Yr (Zl 1 0 ag_78) ?_
 refine Yy (Zq n88 (ZcvWa (n88+256*cc2_0) un_78 un_5)) ?_
 refine Zcp [3] [] (Con.some' (fun s'=>RdT xs (k+st2) ln2 cd S s' (sub text (ev*2+n+1) (ev-n-1))∧s'.rd=s84.rd+n88∧s'.off=s84.off) (c_advance_Shifted (Vs bi (so+(k+st2)) ln2 (cap-st2)) _ b3 8 none s84 Oa n88 Om) ⟨hN90,adv_rd Om,rfl⟩) rfl ?_
 rintro _ _ ⟨rfl,s96,⟨hR97,hds96,hos96⟩,rfl⟩
 have hks96:=hR97.pos.ok
 have hfs96:s96.rd≤43:=Om
 clear hds96 hos96
 refine Y2 ?_
 refine Yy (Zxa 12 3 ae_122) ?_
 refine Yy (Zf fo_115_0) ?_
 refine Yr (Zl 1 0 ag_78) ?_
 refine Yy (Zq n91 (ZcvWa (n91+256*cc3_0) un_78 un_5)) ?_
 refine Zcp [3] [] (Con.some' (fun s'=>RdT xs (k+st3) ln3 cd S s' (sub text (ev*3+n+1) (m3-n-1))∧s'.rd=s86.rd+n91∧s'.off=s86.off) (c_advance_Shifted (Vs bi (so+(k+st3)) ln3 (cap-st3)) _ b3 12 none s86 Oa n91 Om) ⟨hN93,adv_rd Om,rfl⟩) rfl ?_
 rintro _ _ ⟨rfl,s98,⟨hR99,hds98,hos98⟩,rfl⟩
 have hks98:=hR99.pos.ok
 have hfs98:s98.rd≤43:=Om
 clear hds98 hos98
 refine Z4 ?_
 refine Zg 512 [y_0,y_1,y_2,r_3,y_4,y_5,y_6,y_7,y_8,e_9] ?_
 refine Ypa ?_
 refine Ypy (Zf fo_115_0) ?_
 refine Ypr (Zl 3 0 ag_78) ?_
 refine Ypy (Zq cc2_0 (ZshrNb (n88+256*cc2_0) 8)) ?_
 refine Ypy (ZcvNa cc2_0 un_78 un_5) ?_
 refine Ypy (Zxa 512 2 ae_156) ?_
 refine Ypy (Zxb (512+ob) ob ae_89) ?_
 refine Yps (Zsu 10 ob sz_5) ?_
 refine GP.nil (GQ.thenN (G.seq ?_))
 refine Zg 512 [y_0,y_1,y_2,r_3,y_4,y_5,y_6,y_7,y_8,e_9] ?_
 refine Ypa ?_
 refine Ypy (Zf fo_115_0) ?_
 refine Ypr (Zl 2 0 ag_78) ?_
 refine Ypy (Zq cc3_0 (ZshrNb (n91+256*cc3_0) 8)) ?_
 refine Ypy (ZcvNa cc3_0 un_78 un_5) ?_
 refine Ypy (Zxa 768 3 ae_156) ?_
 refine Ypy (Zxb (768+ob) ob ae_89) ?_
 refine Yps (Zsu 11 ob sz_5) ?_
 refine GP.nil (GQ.thenN (G.seq ?_))
 clear hfs84 hfs86 hpp89 hep89 hvp89 hcp89 hap89 hrp89 hpp92 hep92 hvp92 hcp92 hap92 hrp92
 refine YG ?_
 refine Yy (Zxa 8 2 ae_122) ?_
 refine Yy (Zf fo_119_1) ?_
 refine Yr (Zk 0 1 ag_5) ?_
 obtain⟨cc2_1,n100,p101,hcc2_1,hpp101,hep101,hvp101,hcp101, -,hap101,hrp101, -,hN102⟩:=hR97.getS hT hb Om Om
 refine Zcc [1] [] (k_peek (Vs bi (so+(k+st2)) ln2 (cap-st2)) _ b3 8 none s96 Oa L Om Om hpp101) rfl ?_
 refine Ya ?_
 refine Y2 ?_
 refine Yy (Zxa 12 3 ae_122) ?_
 refine Yy (Zf fo_119_1) ?_
 refine Yr (Zk 0 1 ag_5) ?_
 obtain⟨cc3_1,n103,p104,hcc3_1,hpp104,hep104,hvp104,hcp104, -,hap104,hrp104, -,hN105⟩:=hR99.getS hT hb Om Om
 refine Zcc [1] [] (k_peek (Vs bi (so+(k+st3)) ln3 (cap-st3)) _ b3 12 none s98 Oa L Om Om hpp104) rfl ?_
 refine Ya ?_
 refine Y2 ?_
 refine Yy (y_congr (ZandNb p101 2047) (congrArg (fun q:Nat=>Value.int .u16 (q:Int)) (and_low (m:=p101) (k:=11) Om))) ?_
 refine Yy (Zx (to+p101) p101 se_81) ?_
 refine Yr (r_ldar 1 p101 rfl rfl rfl ag_115 sz_115 rfl (nats_take1E Om hep101) rfl) ?_
 refine Ys (Zsw 3 sz_115) ?_
 refine Y2 ?_
 refine Yy (y_congr (ZandNb p104 2047) (congrArg (fun q:Nat=>Value.int .u16 (q:Int)) (and_low (m:=p104) (k:=11) Om))) ?_
 refine Yy (Zx (to+p104) p104 se_81) ?_
 refine Yr (r_ldar 1 p104 rfl rfl rfl ag_115 sz_115 rfl (nats_take1E Om hep104) rfl) ?_
 refine Ys (Zsw 2 sz_115) ?_
 refine Y2 ?_
 refine Yy (Zxa 8 2 ae_122) ?_
 refine Yy (Zf fo_115_0) ?_
 refine Yr (Zl 3 0 ag_78) ?_
 refine Yy (Zq n100 (ZcvWa (n100+256*cc2_1) un_78 un_5)) ?_
 refine Zcp [1] [] (Con.some' (fun s'=>RdT xs (k+st2) ln2 cd S s' (sub text (ev*2+n+1+1) (ev-n-1-1))∧s'.rd=s96.rd+n100∧s'.off=s96.off) (c_advance_Shifted (Vs bi (so+(k+st2)) ln2 (cap-st2)) _ b3 8 none s96 Oa n100 Om) ⟨hN102,adv_rd Om,rfl⟩) rfl ?_
 rintro _ _ ⟨rfl,s106,⟨hR107,hds106,hos106⟩,rfl⟩
 have hks106:=hR107.pos.ok
 have hfs106:s106.rd≤54:=Om
 clear hds106 hos106
 refine Y2 ?_
 refine Yy (Zxa 12 3 ae_122) ?_
 refine Yy (Zf fo_115_0) ?_
 refine Yr (Zl 2 0 ag_78) ?_
 refine Yy (Zq n103 (ZcvWa (n103+256*cc3_1) un_78 un_5)) ?_
 refine Zcp [1] [] (Con.some' (fun s'=>RdT xs (k+st3) ln3 cd S s' (sub text (ev*3+n+1+1) (m3-n-1-1))∧s'.rd=s98.rd+n103∧s'.off=s98.off) (c_advance_Shifted (Vs bi (so+(k+st3)) ln3 (cap-st3)) _ b3 12 none s98 Oa n103 Om) ⟨hN105,adv_rd Om,rfl⟩) rfl ?_
 rintro _ _ ⟨rfl,s108,⟨hR109,hds108,hos108⟩,rfl⟩
 have hks108:=hR109.pos.ok
 have hfs108:s108.rd≤54:=Om
 clear hds108 hos108
 refine Z4 ?_
 refine Zg 1024 [y_0,y_1,y_2,y_3,r_4,y_5,y_6,y_7,y_8,y_9,e_10] ?_
 refine Ypa ?_
 refine Ypy (ZaddNa ob 1) ?_
 refine Ypy (Zf fo_115_0) ?_
 refine Ypr (Zl 3 0 ag_78) ?_
 refine Ypy (Zq cc2_1 (ZshrNb (n100+256*cc2_1) 8)) ?_
 refine Ypy (ZcvNa cc2_1 un_78 un_5) ?_
 refine Ypy (Zxa 512 2 ae_156) ?_
 refine Ypy (Zxb (512+(ob+1)) (ob+1) ae_89) ?_
 refine Yps (Zsu 10 (ob+1) sz_5) ?_
 refine GP.nil (GQ.thenN ?_)
 refine Zg 1024 [y_0,y_1,y_2,y_3,r_4,y_5,y_6,y_7,y_8,y_9,e_10] ?_
 refine Ypa ?_
 refine Ypy (ZaddNa ob 1) ?_
 refine Ypy (Zf fo_115_0) ?_
 refine Ypr (Zl 2 0 ag_78) ?_
 refine Ypy (Zq cc3_1 (ZshrNb (n103+256*cc3_1) 8)) ?_
 refine Ypy (ZcvNa cc3_1 un_78 un_5) ?_
 refine Ypy (Zxa 768 3 ae_156) ?_
 refine Ypy (Zxb (768+(ob+1)) (ob+1) ae_89) ?_
 refine Yps (Zsu 11 (ob+1) sz_5) ?_
 refine GP.nil (GQ.thenN (G.seq ?_))
 clear hfs96 hfs98 hpp101 hep101 hvp101 hcp101 hap101 hrp101 hpp104 hep104 hvp104 hcp104 hap104 hrp104 hfs106 hfs108
 have hW0_0:Row (y0.set ob cc0_0) text (ev*0+pn) (ob+1):=Row.set hy0.2 (by have:=hy0.1;omega) rfl (hcc0_0.trans (congrArg (fun z=>text.getD z 0) Om))
 have hV0_0:(y0.set ob cc0_0).length=256:=by rw[List.length_set];exact hy0.1
 have hW0_1:Row ((y0.set ob cc0_0).set (ob+1) cc0_1) text (ev*0+pn) (ob+2):=Row.set hW0_0 (by have:=hV0_0;omega) rfl (hcc0_1.trans (congrArg (fun z=>text.getD z 0) Om))
 have hV0_1:((y0.set ob cc0_0).set (ob+1) cc0_1).length=256:=by rw[List.length_set];exact hV0_0
 clear hcc0_0 hcc0_1
 obtain⟨z0,hz0⟩:∃z,z=((y0.set ob cc0_0).set (ob+1) cc0_1):=⟨_,rfl⟩
 rw[←hz0] at hW0_1 hV0_1
 rw[←hz0]
 clear hz0 hy0 hyl0 hW0_0 hV0_0
 have hW0:=hW0_1
 have hV0:=hV0_1
 clear hW0_1 hV0_1
 have hW1_0:Row (y1.set ob cc1_0) text (ev*1+pn) (ob+1):=Row.set hy1.2 (by have:=hy1.1;omega) rfl (hcc1_0.trans (congrArg (fun z=>text.getD z 0) Om))
 have hV1_0:(y1.set ob cc1_0).length=256:=by rw[List.length_set];exact hy1.1
 have hW1_1:Row ((y1.set ob cc1_0).set (ob+1) cc1_1) text (ev*1+pn) (ob+2):=Row.set hW1_0 (by have:=hV1_0;omega) rfl (hcc1_1.trans (congrArg (fun z=>text.getD z 0) Om))
 have hV1_1:((y1.set ob cc1_0).set (ob+1) cc1_1).length=256:=by rw[List.length_set];exact hV1_0
 clear hcc1_0 hcc1_1
 obtain⟨z1,hz1⟩:∃z,z=((y1.set ob cc1_0).set (ob+1) cc1_1):=⟨_,rfl⟩
 rw[←hz1] at hW1_1 hV1_1
 rw[←hz1]
 clear hz1 hy1 hyl1 hW1_0 hV1_0
 have hW1:=hW1_1
 have hV1:=hV1_1
 clear hW1_1 hV1_1
 have hW2_0:Row (y2.set ob cc2_0) text (ev*2+pn) (ob+1):=Row.set hy2.2 (by have:=hy2.1;omega) rfl (hcc2_0.trans (congrArg (fun z=>text.getD z 0) Om))
 have hV2_0:(y2.set ob cc2_0).length=256:=by rw[List.length_set];exact hy2.1
 have hW2_1:Row ((y2.set ob cc2_0).set (ob+1) cc2_1) text (ev*2+pn) (ob+2):=Row.set hW2_0 (by have:=hV2_0;omega) rfl (hcc2_1.trans (congrArg (fun z=>text.getD z 0) Om))
 have hV2_1:((y2.set ob cc2_0).set (ob+1) cc2_1).length=256:=by rw[List.length_set];exact hV2_0
 clear hcc2_0 hcc2_1
 obtain⟨z2,hz2⟩:∃z,z=((y2.set ob cc2_0).set (ob+1) cc2_1):=⟨_,rfl⟩
 rw[←hz2] at hW2_1 hV2_1
 rw[←hz2]
 clear hz2 hy2 hyl2 hW2_0 hV2_0
 have hW2:=hW2_1
 have hV2:=hV2_1
 clear hW2_1 hV2_1
 have hW3_0:Row (y3.set ob cc3_0) text (ev*3+pn) (ob+1):=Row.set hy3.2 (by have:=hy3.1;omega) rfl (hcc3_0.trans (congrArg (fun z=>text.getD z 0) Om))
 have hV3_0:(y3.set ob cc3_0).length=256:=by rw[List.length_set];exact hy3.1
 have hW3_1:Row ((y3.set ob cc3_0).set (ob+1) cc3_1) text (ev*3+pn) (ob+2):=Row.set hW3_0 (by have:=hV3_0;omega) rfl (hcc3_1.trans (congrArg (fun z=>text.getD z 0) Om))
 have hV3_1:((y3.set ob cc3_0).set (ob+1) cc3_1).length=256:=by rw[List.length_set];exact hV3_0
 clear hcc3_0 hcc3_1
 obtain⟨z3,hz3⟩:∃z,z=((y3.set ob cc3_0).set (ob+1) cc3_1):=⟨_,rfl⟩
 rw[←hz3] at hW3_1 hV3_1
 rw[←hz3]
 clear hz3 hy3 hyl3 hW3_0 hV3_0
 have hW3:=hW3_1
 have hV3:=hV3_1
 clear hW3_1 hV3_1
 refine YG ?_
 refine Yy (ZaddWa ob 2) ?_
 refine Y2 ?_
 refine Yy (Zeq ((ob+2)%256) 0) ?_
 refine Zn ?_
 refine Zc (fun h110=>?_) (fun h110=>?_)
 refine Y6 ?_
 refine Yy (Zgt 256 ev) ?_
 refine Zn ?_
 refine Zc (fun h111=>?_) (fun h111=>?_)
 exfalso;omega
 refine Z7 (Y6 ?_)
 refine Yy (Zlen un_22) ?_
 refine Yy (ZsubNh (text.length-pn) 256) ?_
 refine Yy (ZmulNh ev 3) ?_
 refine Yy (Zlt ((text.length-pn)-256) (ev*3)) ?_
 refine Zn ?_
 refine Zc (fun h112=>?_) (fun h112=>?_)
 exfalso;omega
 refine Z7 (G.seq ?_)
 have hX0:=(⟨hW0.at_eq rfl Om,hV0⟩:Row z0 text (ev*0+pn) 256∧(z0).length=256)
 have hX1:=(⟨hW1.at_eq rfl Om,hV1⟩:Row z1 text (ev*1+pn) 256∧(z1).length=256)
 have hX2:=(⟨hW2.at_eq rfl Om,hV2⟩:Row z2 text (ev*2+pn) 256∧(z2).length=256)
 have hX3:=(⟨hW3.at_eq rfl Om,hV3⟩:Row z3 text (ev*3+pn) 256∧(z3).length=256)
 obtain⟨dw0,hdw0⟩:∃z,z=splN ds pn z0:=⟨_,rfl⟩
 have hS0:dw0.length=text.length:=by rw[hdw0,splN_length (by have:=(hX0).2;omega)];exact hds
 have hE0_0:Got dw0 text (ev*0) (pn+256):=hdw0▸Got.more (ds:=ds) (j:=pn) hG0 hX0.1 ⟨Om,hX0.2,Om,Om⟩
 have hE0_1:Got dw0 text (ev*1) pn:=hdw0▸Got.keep (ds:=ds) (j:=pn) hG1 hX0.1 ⟨Om,hX0.2,Om⟩
 have hE0_2:Got dw0 text (ev*2) pn:=hdw0▸Got.keep (ds:=ds) (j:=pn) hG2 hX0.1 ⟨Om,hX0.2,Om⟩
 have hE0_3:Got dw0 text (ev*3) pn:=hdw0▸Got.keep (ds:=ds) (j:=pn) hG3 hX0.1 ⟨Om,hX0.2,Om⟩
 obtain⟨dw1,hdw1⟩:∃z,z=splN dw0 (pn+ev) z1:=⟨_,rfl⟩
 have hS1:dw1.length=text.length:=by rw[hdw1,splN_length (by have:=(hX1).2;omega)];exact hS0
 have hE1_0:Got dw1 text (ev*0) (pn+256):=hdw1▸Got.keep (ds:=dw0) (j:=pn+ev) hE0_0 hX1.1 ⟨Om,hX1.2,Om⟩
 have hE1_1:Got dw1 text (ev*1) (pn+256):=hdw1▸Got.more (ds:=dw0) (j:=pn+ev) hE0_1 hX1.1 ⟨Om,hX1.2,Om,Om⟩
 have hE1_2:Got dw1 text (ev*2) pn:=hdw1▸Got.keep (ds:=dw0) (j:=pn+ev) hE0_2 hX1.1 ⟨Om,hX1.2,Om⟩
 have hE1_3:Got dw1 text (ev*3) pn:=hdw1▸Got.keep (ds:=dw0) (j:=pn+ev) hE0_3 hX1.1 ⟨Om,hX1.2,Om⟩
 clear hE0_0 hE0_1 hE0_2 hE0_3
 obtain⟨dw2,hdw2⟩:∃z,z=splN dw1 (pn+(ev*2)) z2:=⟨_,rfl⟩
 have hS2:dw2.length=text.length:=by rw[hdw2,splN_length (by have:=(hX2).2;omega)];exact hS1
 have hE2_0:Got dw2 text (ev*0) (pn+256):=hdw2▸Got.keep (ds:=dw1) (j:=pn+(ev*2)) hE1_0 hX2.1 ⟨Om,hX2.2,Om⟩
 have hE2_1:Got dw2 text (ev*1) (pn+256):=hdw2▸Got.keep (ds:=dw1) (j:=pn+(ev*2)) hE1_1 hX2.1 ⟨Om,hX2.2,Om⟩
 have hE2_2:Got dw2 text (ev*2) (pn+256):=hdw2▸Got.more (ds:=dw1) (j:=pn+(ev*2)) hE1_2 hX2.1 ⟨Om,hX2.2,Om,Om⟩
 have hE2_3:Got dw2 text (ev*3) pn:=hdw2▸Got.keep (ds:=dw1) (j:=pn+(ev*2)) hE1_3 hX2.1 ⟨Om,hX2.2,Om⟩
 clear hE1_0 hE1_1 hE1_2 hE1_3
 obtain⟨dw3,hdw3⟩:∃z,z=splN dw2 (pn+(ev*3)) z3:=⟨_,rfl⟩
 have hS3:dw3.length=text.length:=by rw[hdw3,splN_length (by have:=(hX3).2;omega)];exact hS2
 have hE3_0:Got dw3 text (ev*0) (pn+256):=hdw3▸Got.keep (ds:=dw2) (j:=pn+(ev*3)) hE2_0 hX3.1 ⟨Om,hX3.2,Om⟩
 have hE3_1:Got dw3 text (ev*1) (pn+256):=hdw3▸Got.keep (ds:=dw2) (j:=pn+(ev*3)) hE2_1 hX3.1 ⟨Om,hX3.2,Om⟩
 have hE3_2:Got dw3 text (ev*2) (pn+256):=hdw3▸Got.keep (ds:=dw2) (j:=pn+(ev*3)) hE2_2 hX3.1 ⟨Om,hX3.2,Om⟩
 have hE3_3:Got dw3 text (ev*3) (pn+256):=hdw3▸Got.more (ds:=dw2) (j:=pn+(ev*3)) hE2_3 hX3.1 ⟨Om,hX3.2,Om,Om⟩
 clear hE2_0 hE2_1 hE2_2 hE2_3
 have hK0:=(hE3_0).at_eq rfl (show pn+256=pn+256 from rfl)
 have hK1:=(hE3_1).at_eq rfl (show pn+256=pn+256 from rfl)
 have hK2:=(hE3_2).at_eq rfl (show pn+256=pn+256 from rfl)
 have hK3:=(hE3_3).at_eq rfl (show pn+256=pn+256 from rfl)
 have hKl:=hS3
 refine Zg 128 [y_0,r_1,y_2,y_3,y_4,r_5,y_6,e_7] ?_
 refine Ypa ?_
 refine Ypr (OpY.toR (y_s2a rfl rfl un_89 Om)) ?_
 refine Ypy (Zxa 0 0 ae_156) ?_
 refine Ypr (r_lda 8 0 rfl rfl rfl ag_89 sz_89 rfl (nats_whole Ou) (by rw[nats_length];first|omega|(simp;omega))) ?_
 refine Zps (e_sta (vs:=nats .u8 z0) (cs':=nats .u8 (splN ds pn z0)) 12 pn rfl rfl rfl rfl sz_89 (by have h8:=(hX0).2;have h9:=hds;simp;omega) (nats_one _) (Nat.zero_add _).symm (by have h8:=(hX0).2;have h9:=hds;simp;omega) rfl (spl_nats _ _ _ (by have h8:=(hX0).2;have h9:=hds;simp;omega))) ?_
 rw[←hdw0]
 refine GP.nil (GQ.thenN (G.seq ?_))
 refine Zg 512 [y_0,y_1,y_2,r_3,y_4,y_5,y_6,r_7,y_8,e_9] ?_
 refine Ypa ?_
 refine Ypy (y_slL (q':=pn+ev) (lo:=ev) rfl rfl rfl se_22 Om Om) ?_
 refine Ypr (OpY.toR (y_s2a rfl rfl un_89 Om)) ?_
 refine Ypy (Zxa 256 1 ae_156) ?_
 refine Ypr (r_lda 9 0 rfl rfl rfl ag_89 sz_89 rfl (nats_whole Ou) (by rw[nats_length];first|omega|(simp;omega))) ?_
 refine Zps (e_sta (vs:=nats .u8 z1) (cs':=nats .u8 (splN dw0 (pn+ev) z1)) 12 (pn+ev) rfl rfl rfl rfl sz_89 (by have h8:=(hX1).2;have h9:=hS0;simp;omega) (nats_one _) (Nat.zero_add _).symm (by have h8:=(hX1).2;have h9:=hS0;simp;omega) rfl (spl_nats _ _ _ (by have h8:=(hX1).2;have h9:=hS0;simp;omega))) ?_
 rw[←hdw1]
 refine GP.nil (GQ.thenN (G.seq ?_))
 refine Zg 1024 [y_0,y_1,y_2,y_3,r_4,y_5,y_6,y_7,r_8,y_9,e_10] ?_
 refine Ypa ?_
 refine Ypy (ZmulNh ev 2) ?_
 refine Ypy (y_slL (q':=pn+(ev*2)) (lo:=ev*2) rfl rfl rfl se_22 Om Om) ?_
 refine Ypr (OpY.toR (y_s2a rfl rfl un_89 Om)) ?_
 refine Ypy (Zxa 512 2 ae_156) ?_
 refine Ypr (r_lda 10 0 rfl rfl rfl ag_89 sz_89 rfl (nats_whole Ou) (by rw[nats_length];first|omega|(simp;omega))) ?_
 refine Zps (e_sta (vs:=nats .u8 z2) (cs':=nats .u8 (splN dw1 (pn+(ev*2)) z2)) 12 (pn+(ev*2)) rfl rfl rfl rfl sz_89 (by have h8:=(hX2).2;have h9:=hS1;simp;omega) (nats_one _) (Nat.zero_add _).symm (by have h8:=(hX2).2;have h9:=hS1;simp;omega) rfl (spl_nats _ _ _ (by have h8:=(hX2).2;have h9:=hS1;simp;omega))) ?_
 rw[←hdw2]
 refine GP.nil (GQ.thenN (G.seq ?_))
 refine Zg 1024 [y_0,y_1,y_2,y_3,r_4,y_5,y_6,y_7,r_8,y_9,e_10] ?_
 refine Ypa ?_
 refine Ypy (ZmulNh ev 3) ?_
 refine Ypy (y_slL (q':=pn+(ev*3)) (lo:=ev*3) rfl rfl rfl se_22 Om Om) ?_
 refine Ypr (OpY.toR (y_s2a rfl rfl un_89 Om)) ?_
 refine Ypy (Zxa 768 3 ae_156) ?_
 refine Ypr (r_lda 11 0 rfl rfl rfl ag_89 sz_89 rfl (nats_whole Ou) (by rw[nats_length];first|omega|(simp;omega))) ?_
 refine Zps (e_sta (vs:=nats .u8 z3) (cs':=nats .u8 (splN dw2 (pn+(ev*3)) z3)) 12 (pn+(ev*3)) rfl rfl rfl rfl sz_89 (by have h8:=(hX3).2;have h9:=hS2;simp;omega) (nats_one _) (Nat.zero_add _).symm (by have h8:=(hX3).2;have h9:=hS2;simp;omega) rfl (spl_nats _ _ _ (by have h8:=(hX3).2;have h9:=hS2;simp;omega))) ?_
 rw[←hdw3]
 refine GP.nil (GQ.thenN (Y5 ?_))
 refine Yy (y_congr (y_slL (q':=pn+256) (lo:=256) rfl rfl rfl se_22 Om Om) (slice_eq (a:=text.length-pn-256) (a':=text.length-(pn+256)) (b:=text.length-pn-256) (b':=text.length-(pn+256)) Om Om)) ?_
 refine Y1 ?_
 refine Yy (Zq (4*(pn+256)) (ZaddNh (4*pn) 1024)) ?_
 refine GL.nil (GQ.blockN ?_)
 refine GQ.pick [5,4,1,0,4,4,4,4,4] rfl ?_
 exact Zb ⟨s80,s82,s106,s108,_,_,_,_,_,(n+2),(pn+256),_,rfl,hR81.at_eq Om Om,hR83.at_eq Om Om,hR107.at_eq Om Om,hR109.at_eq Om Om,⟨hV0,Row.zero.at_eq rfl Om⟩,⟨hV1,Row.zero.at_eq rfl Om⟩,⟨hV2,Row.zero.at_eq rfl Om⟩,⟨hV3,Row.zero.at_eq rfl Om⟩,hK0,hK1,hK2,hK3,hKl,⟨Om,Om,Om,Om⟩,rfl,rfl⟩ (hs:=rfl)
 refine G.skip (GQ.blockN ?_)
 refine GQ.pick [5,4,1,0,4,4,4,4,4] rfl ?_
 exact Zb ⟨s80,s82,s106,s108,_,_,_,_,ds,(n+2),pn,_,rfl,hR81.at_eq Om Om,hR83.at_eq Om Om,hR107.at_eq Om Om,hR109.at_eq Om Om,⟨hV0,hW0.at_eq rfl Om⟩,⟨hV1,hW1.at_eq rfl Om⟩,⟨hV2,hW2.at_eq rfl Om⟩,⟨hV3,hW3.at_eq rfl Om⟩,hG0,hG1,hG2,hG3,hds,⟨Om,Om,Om,Om⟩,rfl,rfl⟩ (hs:=rfl)
end Go.Proofs.YtplgbfkpeampgaaGreatDoor
