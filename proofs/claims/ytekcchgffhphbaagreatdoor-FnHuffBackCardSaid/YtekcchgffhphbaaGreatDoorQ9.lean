/- Walks (printed by a program of my own). -/
import Derived.Test.YtekcchgffhphbaaGreatDoorQ7
import Derived.Test.YtekcchgffhphbaaGreatDoorQ8
set_option linter.unusedVariables false
set_option linter.unusedSimpArgs false
set_option maxRecDepth 100000
namespace Go.Proofs.YtekcchgffhphbaaGreatDoor
open Go
theorem aaN (bi so:Nat) (bV:cp) (xs:List Nat) (cap:Nat) (hc:xs.length≤cap) (hz:xs.length≤1152921504606846976) (hb:Bytes xs) (bt an:Nat) (gz:cp) (dt:List Nat) (Cg:dt.length=2048) (wR:2048≤an) (L:Nat) (ls:List Nat) (hT:wg dt L (lv ls) (Has ls)) (be eo:Nat) (qS:cp) (dp:Value) (bd:Nat) (zs text:List Nat) (lz:zs.length=text.length) (ui:text.length≤1073741824) (wv:1≤text.length) (ha:∀c ∈ text,Has ls c) (hl:xs.length=tN (lv ls) text/8+1) (hv:tailV xs 0 xs.length=2^tN (lv ls) text+bitsV (codeBits ls text)):aI Tryz.prog 30 [Vp be eo,Vs bd 0 0 text.length,Vs bi so xs.length cap] [⟨bd,0,(aa .u8 zs),none⟩] [⟨be,eo,[Vs bt 0 2048 an,Va L,dp],qS⟩,⟨bt,0,(aa .u16 dt),gz⟩,⟨bi,so,(aa .u8 xs),bV⟩] (fun v l'=>∃q b o cs cap,v=.tuple #[.slice q text.length cap,.nilIface]∧GS q b o cs 1 cap∧text.length≤cap∧cs.take text.length=aa .u8 text∧l'=[⟨b,o,cs,none⟩]):=by
  have h5:=aJ.ofBits (tt:=5) hT hb Om ha hl hv;have h4:=aJ.ofBits (tt:=4) hT hb Om ha hl hv;rcases Nat.lt_or_ge 8 L with h|h
  · exact QN bi so bV xs 0 xs.length cap hc Om hz hb bt 0 an gz dt Cg wR L _ _ hT be eo qS dp bd zs text lz wv ui Om h5.2 h h5.1
  · exact RV bi so bV xs 0 xs.length cap hc Om hz hb bt 0 an gz dt Cg wR L _ _ hT be eo qS dp bd zs text lz wv ui Om h4.2 h h4.1
set_option maxHeartbeats 2000000 in
theorem zE (bi so:Nat) (bV:cp) (ys:List Nat) (ci:Nat) (XQ:ys.length≤ci) (hz:ys.length≤1152921504606846976) (hb:Bytes ys) (ls:List Nat) (L last:Nat) (hH:HW ls L last) (hW:gE ls) (hE:gS ls) (hTr:ku (bI ls L last) ys) (bj sj:Nat) (shj:cp) (zs:List Nat) (cj:Nat) (XR:zs.length≤cj) (rB:zs.length≤1152921504606846976) (hbz:Bytes zs) (text:List Nat) (ui:text.length≤1073741824) (wv:1≤text.length) (ha:∀c ∈ text,Has ls c) (hl:zs.length=tN (lv ls) text/8+1) (hv:tailV zs 0 zs.length=2^tN (lv ls) text+bitsV (codeBits ls text)):aI Tryz.prog 14 [Vs bi so ys.length ci,Vs bj sj zs.length cj,.bool false,Vh text.length] [] [⟨bi,so,(aa .u8 ys),bV⟩,⟨bj,sj,(aa .u8 zs),shj⟩] (fun v l'=>∃q b o cs cap,v=.tuple #[.slice q text.length cap,.bool true]∧GS q b o cs 1 cap∧text.length≤cap∧cs.take text.length=aa .u8 text∧l'=[⟨b,o,cs,none⟩]):=by
 refine Zi Tryz.func14 rfl fun w0=>?_
 refine A2 ?_;refine cH [] [0] (vV bi so bV ys 0 ys.length ci XQ Om hz hb ls ys L last hH hW hE hTr rfl (fun i hi=>by rw[Nat.zero_add])) rfl ?_;rintro _ _ ⟨bS,bF,bo,bn,bc,bt,qz,cz,W,F,rfl,hT,hFl,rfl⟩;refine vR ?_;refine Zh 42 (YS 0 (YS 2 (YS 4 (YE 1 (YE 3 (YE 5 (YS 6 (YS 7 (YS 8 (YS 9 (YS 10 .nil))))) .stop) .stop) (YE 3 (YE 1 (YE 5 (YS 6 (YS 7 (YS 8 (YS 9 (YS 10 .nil))))) .stop) .stop) .stop))))) ?_;refine A1 ?_
 focus
  refine iE [0,0,0] [] (qH _ _ _ _ _ _ _ _ _ _ _ _ _ _ _ _ _ _ _ _ _ _ _ _ _ _ _ _) rfl ?_ ?_;rintro _ _ ⟨be,rfl,rfl⟩;refine GT.dj (kt (m:=0) (c:=text.length) rfl rfl rfl aB Or rfl rfl) rfl rfl ?_ GT.stop;rintro _ _ ⟨b1,rfl,rfl⟩;refine iE [0] [0,1,3] (aaN bj sj shj zs cj XR rB hbz bt 2048 none F hFl Om L ls hT be 0 (some (118,3)) (Vp bS 279) b1 (List.replicate text.length 0) text Oi ui wv ha hl hv) rfl ?_ GT.stop;rotate_left;refine GT.dj (kt (m:=0) (c:=text.length) rfl rfl rfl aB Or rfl rfl) rfl rfl ?_ GT.stop;rintro _ _ ⟨Hk,rfl,rfl⟩
  refine iE [1,1,1] [] (qH _ _ _ _ _ _ _ _ _ _ _ _ _ _ _ _ _ _ _ _ _ _ _ _ _ _ _ _) rfl ?_ GT.stop;rintro _ _ ⟨be,rfl,rfl⟩;refine iE [1] [0,1,3] (aaN bj sj shj zs cj XR rB hbz bt 2048 none F hFl Om L ls hT be 0 (some (118,3)) (Vp bS 279) Hk (List.replicate text.length 0) text Oi ui wv ha hl hv) rfl ?_ GT.stop;rotate_left;all_goals
   rintro _ _ ⟨q2,b3,o4,Vi,zu,rfl,GR,CL,Ql,rfl⟩;refine A8 ?_;refine cH [] [0] (cR (⟨b3,o4,Vi,none⟩) q2 text.length zu 0 text (Rd.jF GR CL Ql) Om) rfl ?_;rintro _ _ ⟨q10,jC,o12,aoh,aaO,aAD,n16,rfl,aft,afu,afv,afw,afx,rfl⟩;refine A3 ?_;subst afx;subst afw;repeat first|refine ZR ?_|refine ZB ?_
   exact jE [0] rfl rfl rfl rfl (⟨_,_,_,_,_,rfl,aft,afu,afv,rfl⟩)
end Go.Proofs.YtekcchgffhphbaaGreatDoor
