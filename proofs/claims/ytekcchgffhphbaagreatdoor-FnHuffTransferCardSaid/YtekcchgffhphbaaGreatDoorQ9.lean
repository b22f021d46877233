/- Walks (printed by a program of my own). -/
import Derived.Test.YtekcchgffhphbaaGreatDoorQ7
import Derived.Test.YtekcchgffhphbaaGreatDoorQ8
set_option linter.unusedVariables false
set_option linter.unusedSimpArgs false
set_option maxRecDepth 100000
namespace Go.Proofs.YtekcchgffhphbaaGreatDoor
open Go
theorem abe (bi so:Nat) (cf:bV) (xs:List Nat) (cap:Nat) (hc:xs.length≤cap) (hz:xs.length≤1152921504606846976) (hb:Bytes xs) (bt an:Nat) (gH:bV) (dt:List Nat) (Cv:dt.length=2048) (xg:2048≤an) (L:Nat) (ls:List Nat) (hT:wD dt L (lH ls) (Has ls)) (be eo:Nat) (rf:bV) (dp:Value) (bd:Nat) (zs text:List Nat) (lK:zs.length=text.length) (um:text.length≤1073741824) (wN:1≤text.length) (ha:∀c ∈ text,Has ls c) (hl:xs.length=tN (lH ls) text/8+1) (hv:tailV xs 0 xs.length=2^tN (lH ls) text+bitsV (codeBits ls text)):aE Tryz.prog 30 [Vp be eo,Vs bd 0 0 text.length,Vs bi so xs.length cap] [⟨bd,0,(aa .u8 zs),none⟩] [⟨be,eo,[Vs bt 0 2048 an,Va L,dp],rf⟩,⟨bt,0,(aa .u16 dt),gH⟩,⟨bi,so,(aa .u8 xs),cf⟩] (fun v l'=>∃q b o cs cap,v=.tuple #[.slice q text.length cap,.nilIface]∧GS q b o cs 1 cap∧text.length≤cap∧cs.take text.length=aa .u8 text∧l'=[⟨b,o,cs,none⟩]):=by
  have h5:=aJ.ofBits (tt:=5) hT hb Om ha hl hv;have h4:=aJ.ofBits (tt:=4) hT hb Om ha hl hv;rcases Nat.lt_or_ge 8 L with h|h
  · exact Rp bi so cf xs 0 xs.length cap hc Om hz hb bt 0 an gH dt Cv xg L _ _ hT be eo rf dp bd zs text lK wN um Om h5.2 h h5.1
  · exact Sw bi so cf xs 0 xs.length cap hc Om hz hb bt 0 an gH dt Cv xg L _ _ hT be eo rf dp bd zs text lK wN um Om h4.2 h h4.1
set_option maxHeartbeats 2000000 in
theorem zV (bi so:Nat) (cf:bV) (ys:List Nat) (ci:Nat) (YA:ys.length≤ci) (hz:ys.length≤1152921504606846976) (hb:Bytes ys) (ls:List Nat) (L last:Nat) (hH:HW ls L last) (hW:gL ls) (hE:ib ls) (hTr:kF (bM ls L last) ys) (bj sj:Nat) (shj:bV) (zs:List Nat) (cj:Nat) (YB:zs.length≤cj) (rM:zs.length≤1152921504606846976) (hbz:Bytes zs) (text:List Nat) (um:text.length≤1073741824) (wN:1≤text.length) (ha:∀c ∈ text,Has ls c) (hl:zs.length=tN (lH ls) text/8+1) (hv:tailV zs 0 zs.length=2^tN (lH ls) text+bitsV (codeBits ls text)):aE Tryz.prog 14 [Vs bi so ys.length ci,Vs bj sj zs.length cj,.bool false,Vh text.length] [] [⟨bi,so,(aa .u8 ys),cf⟩,⟨bj,sj,(aa .u8 zs),shj⟩] (fun v l'=>∃q b o cs cap,v=.tuple #[.slice q text.length cap,.bool true]∧GS q b o cs 1 cap∧text.length≤cap∧cs.take text.length=aa .u8 text∧l'=[⟨b,o,cs,none⟩]):=by
 refine Zi Tryz.func14 rfl fun w0=>?_
 refine A2 ?_;refine cF [] [0] (we bi so cf ys 0 ys.length ci YA Om hz hb ls ys L last hH hW hE hTr rfl (fun i hi=>by rw[Nat.zero_add])) rfl ?_;rintro _ _ ⟨bS,bF,bo,bn,bc,bt,qz,cz,W,F,rfl,hT,hFl,rfl⟩;refine vu ?_;refine Zh 42 (YS 0 (YS 2 (YS 4 (YE 1 (YE 3 (YE 5 (YS 6 (YS 7 (YS 8 (YS 9 (YS 10 .nil))))) .stop) .stop) (YE 3 (YE 1 (YE 5 (YS 6 (YS 7 (YS 8 (YS 9 (YS 10 .nil))))) .stop) .stop) .stop))))) ?_;refine A1 ?_
 focus
  refine pC [0,0,0] [] (qP _ _ _ _ _ _ _ _ _ _ _ _ _ _ _ _ _ _ _ _ _ _ _ _ _ _ _ _) rfl ?_ ?_;rintro _ _ ⟨be,rfl,rfl⟩;refine GT.c8 (lh (m:=0) (c:=text.length) rfl rfl rfl aD Or rfl rfl) rfl rfl ?_ GT.stop;rintro _ _ ⟨b1,rfl,rfl⟩;refine pC [0] [0,1,3] (abe bj sj shj zs cj YB rM hbz bt 2048 none F hFl Om L ls hT be 0 (some (118,3)) (Vp bS 279) b1 (List.replicate text.length 0) text Oi um wN ha hl hv) rfl ?_ GT.stop;rotate_left;refine GT.c8 (lh (m:=0) (c:=text.length) rfl rfl rfl aD Or rfl rfl) rfl rfl ?_ GT.stop;rintro _ _ ⟨YR,rfl,rfl⟩
  refine pC [1,1,1] [] (qP _ _ _ _ _ _ _ _ _ _ _ _ _ _ _ _ _ _ _ _ _ _ _ _ _ _ _ _) rfl ?_ GT.stop;rintro _ _ ⟨be,rfl,rfl⟩;refine pC [1] [0,1,3] (abe bj sj shj zs cj YB rM hbz bt 2048 none F hFl Om L ls hT be 0 (some (118,3)) (Vp bS 279) YR (List.replicate text.length 0) text Oi um wN ha hl hv) rfl ?_ GT.stop;rotate_left;all_goals
   rintro _ _ ⟨q2,b3,o4,L3,vx,rfl,L4,EP,QT,rfl⟩;refine A8 ?_;refine cF [] [0] (iC (⟨b3,o4,L3,none⟩) q2 text.length vx 0 text (Rd.q5 L4 EP QT) Om) rfl ?_;rintro _ _ ⟨q10,jQ,o12,aA6,aoV,aA7,n16,rfl,afV,afW,afX,afY,afZ,rfl⟩;refine A3 ?_;subst afZ;subst afY;repeat first|refine ZR ?_|refine ZB ?_
   exact jj [0] rfl rfl rfl rfl (⟨_,_,_,_,_,rfl,afV,afW,afX,rfl⟩)
end Go.Proofs.YtekcchgffhphbaaGreatDoor
