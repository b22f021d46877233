/- Closed facts on the program's types, and short names for the walk's steps. -/
import Derived.Test.YtekcchgffhphbaaGreatDoorProg
import Derived.Test.YtekcchgffhphbaaGreatDoorP1
set_option maxRecDepth 100000
set_option linter.unusedVariables false
set_option linter.unusedSimpArgs false
namespace Go.Proofs.YtekcchgffhphbaaGreatDoor
open Tryz
theorem mo:prog.follows .mixedOrders=true:=by kernel_rfl
theorem eU:ew prog 108=some (16,1):=by kernel_rfl
theorem kA:ew prog 109=some (4,16):=by kernel_rfl
theorem Fp:ew prog 148=some (4,256):=by kernel_rfl
theorem Fq:ew prog 152=some (12,1):=by kernel_rfl
theorem Fs:ew prog 179=some (12,1):=by kernel_rfl
theorem Ft:ew prog 180=some (16,1):=by kernel_rfl
theorem lP:ew prog 197=some (32,2):=by kernel_rfl
theorem dY:ew prog 201=some (13,1):=by kernel_rfl
theorem WK:ew prog 202=some (8,1):=by kernel_rfl
theorem kB:ew prog 203=some (257,1):=by kernel_rfl
theorem WL:ew prog 217=some (32,1):=by kernel_rfl
theorem rM:ew prog 57=some (256,1):=by kernel_rfl
theorem df:ew prog 69=some (256,1):=by kernel_rfl
theorem iA:ew prog 92=some (256,1):=by kernel_rfl
theorem nL:fS prog 100=some false:=by kernel_rfl
theorem BC:fS prog 101=some false:=by kernel_rfl
theorem gT:fS prog 104=some false:=by kernel_rfl
theorem vz:fS prog 112=some true:=by kernel_rfl
theorem cc:fS prog 114=some true:=by kernel_rfl
theorem BD:fS prog 116=some false:=by kernel_rfl
theorem qy:fS prog 165=some true:=by kernel_rfl
theorem pg:fS prog 166=some false:=by kernel_rfl
theorem BE:fS prog 172=some true:=by kernel_rfl
theorem lQ:fS prog 174=some false:=by kernel_rfl
theorem sI:fS prog 186=some true:=by kernel_rfl
theorem jV:fS prog 205=some true:=by kernel_rfl
theorem yn:fS prog 206=some false:=by kernel_rfl
theorem LU:fS prog 21=some false:=by kernel_rfl
theorem ay:fS prog 22=some false:=by kernel_rfl
theorem fy:fS prog 3=some false:=by kernel_rfl
theorem cG:fS prog 32=some false:=by kernel_rfl
theorem Fu:fS prog 4=some false:=by kernel_rfl
theorem cC:fS prog 46=some false:=by kernel_rfl
theorem aA:fS prog 5=some false:=by kernel_rfl
theorem Dm:fS prog 56=some false:=by kernel_rfl
theorem aej:fS prog 57=some true:=by kernel_rfl
theorem ax:fS prog 58=some false:=by kernel_rfl
theorem pB:fS prog 60=some false:=by kernel_rfl
theorem mJ:fS prog 61=some false:=by kernel_rfl
theorem aek:fS prog 63=some true:=by kernel_rfl
theorem v7:fS prog 64=some false:=by kernel_rfl
theorem rN:fS prog 66=some false:=by kernel_rfl
theorem kN:fS prog 73=some false:=by kernel_rfl
theorem kC:fS prog 91=some false:=by kernel_rfl
theorem lD:fS prog 94=some true:=by kernel_rfl
theorem bx:fS prog 95=some false:=by kernel_rfl
theorem LV:gM prog 100=some (58,[.int .u16 ((0:Nat):Int)],1,2):=by kernel_rfl
theorem WN:gM prog 101=some (205,[.int .i32 ((0:Nat):Int),.int .u32 ((0:Nat):Int)],2,8):=by kernel_rfl
theorem WO:gM prog 104=some (165,[.int .u16 ((0:Nat):Int),.int .u8 ((0:Nat):Int),.int .u8 ((0:Nat):Int)],3,4):=by kernel_rfl
theorem ak:gM prog 22=some (5,[.int .u8 ((0:Nat):Int)],1,1):=by kernel_rfl
theorem Ub:gM prog 59=some (112,[.int .u16 ((0:Nat):Int),.int .u8 ((0:Nat):Int)],2,4):=by kernel_rfl
theorem ael:gM prog 61=some (114,[.int .u16 ((0:Nat):Int)],1,2):=by kernel_rfl
theorem Uc:gM prog 64=some (174,[.int .u64 ((0:Nat):Int)],1,8):=by kernel_rfl
theorem jE:fieldOff prog 103 0=some 0:=by kernel_rfl
theorem iT:fieldOff prog 103 1=some 1:=by kernel_rfl
theorem ou:fieldOff prog 103 2=some 2:=by kernel_rfl
theorem qC:fieldOff prog 106 0=some 0:=by kernel_rfl
theorem dw:fieldOff prog 106 1=some 256:=by kernel_rfl
theorem dk:fieldOff prog 106 10=some 528:=by kernel_rfl
theorem bJ:fieldOff prog 106 11=some 529:=by kernel_rfl
theorem lh:fieldOff prog 106 12=some 530:=by kernel_rfl
theorem qZ:fieldOff prog 106 13=some 531:=by kernel_rfl
theorem q5:fieldOff prog 106 14=some 532:=by kernel_rfl
theorem lj:fieldOff prog 106 15=some 533:=by kernel_rfl
theorem jF:fieldOff prog 106 2=some 512:=by kernel_rfl
theorem LW:fieldOff prog 106 3=some 514:=by kernel_rfl
theorem jG:fieldOff prog 106 4=some 518:=by kernel_rfl
theorem cI:fieldOff prog 106 5=some 521:=by kernel_rfl
theorem gb:fieldOff prog 106 6=some 524:=by kernel_rfl
theorem ur:fieldOff prog 106 7=some 525:=by kernel_rfl
theorem aj:fieldOff prog 106 8=some 526:=by kernel_rfl
theorem dM:fieldOff prog 106 9=some 527:=by kernel_rfl
theorem ov:fieldOff prog 112 0=some 0:=by kernel_rfl
theorem jH:fieldOff prog 112 1=some 1:=by kernel_rfl
theorem an:fieldOff prog 114 0=some 0:=by kernel_rfl
theorem ox:fieldOff prog 118 0=some 0:=by kernel_rfl
theorem jI:fieldOff prog 118 1=some 1:=by kernel_rfl
theorem uu:fieldOff prog 118 2=some 2:=by kernel_rfl
theorem oy:fieldOff prog 120 0=some 0:=by kernel_rfl
theorem eN:fieldOff prog 120 1=some 1:=by kernel_rfl
theorem iU:fieldOff prog 120 2=some 2:=by kernel_rfl
theorem eO:fieldOff prog 120 3=some 3:=by kernel_rfl
theorem lE:fieldOff prog 142 0=some 0:=by kernel_rfl
theorem cq:fieldOff prog 142 1=some 1:=by kernel_rfl
theorem a4:fieldOff prog 142 2=some 2:=by kernel_rfl
theorem dg:fieldOff prog 142 3=some 3:=by kernel_rfl
theorem iB:fieldOff prog 165 0=some 0:=by kernel_rfl
theorem iC:fieldOff prog 165 1=some 1:=by kernel_rfl
theorem iV:fieldOff prog 165 2=some 2:=by kernel_rfl
theorem gU:fieldOff prog 169 0=some 0:=by kernel_rfl
theorem jJ:fieldOff prog 169 1=some 1:=by kernel_rfl
theorem qE:fieldOff prog 169 2=some 2:=by kernel_rfl
theorem lF:fieldOff prog 183 0=some 0:=by kernel_rfl
theorem gy:fieldOff prog 183 1=some 1:=by kernel_rfl
theorem ek:fieldOff prog 183 2=some 2:=by kernel_rfl
theorem oz:fieldOff prog 186 0=some 0:=by kernel_rfl
theorem lG:fieldOff prog 186 1=some 1:=by kernel_rfl
theorem oA:fieldOff prog 186 2=some 2:=by kernel_rfl
theorem mK:fieldOff prog 196 0=some 0:=by kernel_rfl
theorem uv:fieldOff prog 196 1=some 1:=by kernel_rfl
theorem mL:fieldOff prog 205 0=some 0:=by kernel_rfl
theorem lH:fieldOff prog 205 1=some 1:=by kernel_rfl
theorem oB:fieldOff prog 208 0=some 0:=by kernel_rfl
theorem uw:fieldOff prog 208 1=some 1:=by kernel_rfl
theorem jK:fieldOff prog 208 2=some 2:=by kernel_rfl
theorem ma:fieldOff prog 63 0=some 0:=by kernel_rfl
theorem q6:fieldOff prog 71 0=some 0:=by kernel_rfl
theorem cV:fieldOff prog 71 1=some 256:=by kernel_rfl
theorem ez:fieldOff prog 71 10=some 265:=by kernel_rfl
theorem Dn:fieldOff prog 71 11=some 266:=by kernel_rfl
theorem yo:fieldOff prog 71 12=some 267:=by kernel_rfl
theorem dN:fieldOff prog 71 13=some 268:=by kernel_rfl
theorem Dp:fieldOff prog 71 14=some 269:=by kernel_rfl
theorem mM:fieldOff prog 71 15=some 270:=by kernel_rfl
theorem lI:fieldOff prog 71 16=some 271:=by kernel_rfl
theorem ux:fieldOff prog 71 17=some 272:=by kernel_rfl
theorem gV:fieldOff prog 71 18=some 273:=by kernel_rfl
theorem ny:fieldOff prog 71 2=some 257:=by kernel_rfl
theorem iD:fieldOff prog 71 20=some 278:=by kernel_rfl
theorem mN:fieldOff prog 71 22=some 279:=by kernel_rfl
theorem xd:fieldOff prog 71 3=some 258:=by kernel_rfl
theorem xf:fieldOff prog 71 4=some 259:=by kernel_rfl
theorem xg:fieldOff prog 71 5=some 260:=by kernel_rfl
theorem xh:fieldOff prog 71 6=some 261:=by kernel_rfl
theorem mf:fieldOff prog 71 7=some 262:=by kernel_rfl
theorem uy:fieldOff prog 71 8=some 263:=by kernel_rfl
theorem Hk:fieldOff prog 71 9=some 264:=by kernel_rfl
theorem nC:fieldOff prog 94 0=some 0:=by kernel_rfl
theorem gL:fieldOff prog 94 1=some 1:=by kernel_rfl
theorem ra:fieldOff prog 97 0=some 0:=by kernel_rfl
theorem gh:fieldOff prog 97 1=some 1:=by kernel_rfl
theorem mg:fieldOff prog 97 2=some 2:=by kernel_rfl
theorem eL:fieldOff prog 97 3=some 3:=by kernel_rfl
theorem bQ:fieldOff prog 99 0=some 0:=by kernel_rfl
theorem cK:fieldOff prog 99 1=some 1:=by kernel_rfl
theorem fo:fieldOff prog 99 2=some 2:=by kernel_rfl
theorem lR:cy prog 100=some 1:=by kernel_rfl
theorem fe:cy prog 101=some 2:=by kernel_rfl
theorem iK:cy prog 104=some 3:=by kernel_rfl
theorem yp:cy prog 163=some 1:=by kernel_rfl
theorem az:cy prog 22=some 1:=by kernel_rfl
theorem nE:cy prog 43=some 1:=by kernel_rfl
theorem kD:cy prog 60=some 2:=by kernel_rfl
theorem cP:cy prog 61=some 1:=by kernel_rfl
theorem cM:cy prog 64=some 1:=by kernel_rfl
theorem LX:lq prog 106=some [(0,256),(256,256),(512,2),(514,4),(518,3),(521,3),(524,1),(525,1),(526,1),(527,1),(528,1),(529,1),(530,1),(531,1),(532,1),(533,1)]:=by kernel_rfl
theorem LY:lq prog 112=some [(0,1),(1,1)]:=by kernel_rfl
theorem WQ:lq prog 114=some [(0,1)]:=by kernel_rfl
theorem WS:lq prog 118=some [(0,1),(1,1),(2,1)]:=by kernel_rfl
theorem WT:lq prog 138=some [(0,1)]:=by kernel_rfl
theorem WU:lq prog 183=some [(0,1),(1,1),(2,1)]:=by kernel_rfl
theorem WV:lq prog 186=some [(0,1),(1,1),(2,1)]:=by kernel_rfl
theorem Ud:lq prog 71=some [(0,256),(256,1),(257,1),(258,1),(259,1),(260,1),(261,1),(262,1),(263,1),(264,1),(265,1),(266,1),(267,1),(268,1),(269,1),(270,1),(271,1),(272,1),(273,1),(274,4),(278,1),(279,0),(279,256)]:=by kernel_rfl
theorem yq:cY prog 100=some 1:=by kernel_rfl
theorem LZ:cY prog 101=some 1:=by kernel_rfl
theorem Fv:cY prog 104=some 1:=by kernel_rfl
theorem nM:cY prog 112=some 2:=by kernel_rfl
theorem aE:cY prog 114=some 1:=by kernel_rfl
theorem jo:cY prog 165=some 3:=by kernel_rfl
theorem WW:cY prog 166=some 1:=by kernel_rfl
theorem BF:cY prog 172=some 0:=by kernel_rfl
theorem nN:cY prog 174=some 1:=by kernel_rfl
theorem WX:cY prog 183=some 3:=by kernel_rfl
theorem lk:cY prog 186=some 3:=by kernel_rfl
theorem jW:cY prog 205=some 2:=by kernel_rfl
theorem WY:cY prog 206=some 1:=by kernel_rfl
theorem Hl:cY prog 21=some 1:=by kernel_rfl
theorem aJ:cY prog 22=some 1:=by kernel_rfl
theorem uz:cY prog 3=some 1:=by kernel_rfl
theorem kE:cY prog 32=some 1:=by kernel_rfl
theorem Fw:cY prog 4=some 1:=by kernel_rfl
theorem fP:cY prog 46=some 1:=by kernel_rfl
theorem aT:cY prog 5=some 1:=by kernel_rfl
theorem aem:cY prog 57=some 256:=by kernel_rfl
theorem fQ:cY prog 58=some 1:=by kernel_rfl
theorem Dq:cY prog 60=some 1:=by kernel_rfl
theorem aen:cY prog 61=some 1:=by kernel_rfl
theorem aeo:cY prog 63=some 1:=by kernel_rfl
theorem Dr:cY prog 64=some 1:=by kernel_rfl
theorem Ue:cY prog 66=some 1:=by kernel_rfl
theorem j8:cY prog 91=some 1:=by kernel_rfl
theorem lJ:cY prog 94=some 2:=by kernel_rfl
theorem dO:cY prog 95=some 1:=by kernel_rfl
theorem L3:prog.underlying 100=some (.slice 58):=by kernel_rfl
theorem WZ:prog.underlying 101=some (.slice 205):=by kernel_rfl
theorem L4:prog.underlying 104=some (.slice 165):=by kernel_rfl
theorem Fx:prog.underlying 123=some (.pointer 148):=by kernel_rfl
theorem BG:prog.underlying 136=some (.pointer 138):=by kernel_rfl
theorem BH:prog.underlying 150=some (.int .i8):=by kernel_rfl
theorem yr:prog.underlying 163=some (.slice 91):=by kernel_rfl
theorem ph:prog.underlying 174=some (.int .u64):=by kernel_rfl
theorem W4:prog.underlying 198=some (.slice 196):=by kernel_rfl
theorem pC:prog.underlying 21=some (.int .i32):=by kernel_rfl
theorem aG:prog.underlying 22=some (.slice 5):=by kernel_rfl
theorem dW:prog.underlying 3=some (.int .i64):=by kernel_rfl
theorem gW:prog.underlying 32=some (.int .u64):=by kernel_rfl
theorem rO:prog.underlying 43=some (.slice 46):=by kernel_rfl
theorem aO:prog.underlying 46=some (.int .u32):=by kernel_rfl
theorem au:prog.underlying 5=some (.int .u8):=by kernel_rfl
theorem Uf:prog.underlying 55=some (.pointer 71):=by kernel_rfl
theorem aD:prog.underlying 58=some (.int .u16):=by kernel_rfl
theorem Hm:prog.underlying 60=some (.slice 112):=by kernel_rfl
theorem Ds:prog.underlying 61=some (.slice 114):=by kernel_rfl
theorem Hn:prog.underlying 64=some (.slice 174):=by kernel_rfl
theorem Ho:prog.underlying 66=some (.pointer 106):=by kernel_rfl
theorem gl:prog.underlying 73=some (.interface #[("Error",218)]):=by kernel_rfl
theorem R7:prog.underlying 9=some (.string):=by kernel_rfl
theorem iE:prog.underlying 91=some (.int .i16):=by kernel_rfl
theorem aX:prog.underlying 95=some (.int .u64):=by kernel_rfl
theorem L5:gk prog 106=some ((aa .u32 (List.replicate 256 0))++(aa .i16 (List.replicate 256 0))++[.slice none 0 0,.int .i64 ((0:Nat):Int),.slice none 0 0,.int .u64 ((0:Nat):Int),.int .u64 ((0:Nat):Int),.int .u8 ((0:Nat):Int),.int .u64 ((0:Nat):Int),.int .u8 ((0:Nat):Int),.slice none 0 0,.slice none 0 0,.slice none 0 0,.slice none 0 0,.slice none 0 0,.int .i64 ((0:Nat):Int),.slice none 0 0,.int .i64 ((0:Nat):Int),.int .u16 ((0:Nat):Int),.int .u8 ((0:Nat):Int),.bool false,.bool false,.int .u8 ((0:Nat):Int),.int .u8 ((0:Nat):Int)]):=by kernel_rfl
theorem W5:gk prog 108=some ((aa .u32 (List.replicate 16 0))):=by kernel_rfl
theorem W6:gk prog 109=some ((aa .u32 (List.replicate 64 0))):=by kernel_rfl
theorem BI:gk prog 112=some ([.int .u16 ((0:Nat):Int),.int .u8 ((0:Nat):Int)]):=by kernel_rfl
theorem fp:gk prog 114=some ([.int .u16 ((0:Nat):Int)]):=by kernel_rfl
theorem W7:gk prog 118=some ([.slice none 0 0,.int .u8 ((0:Nat):Int),(Value.pointer none)]):=by kernel_rfl
theorem W8:gk prog 120=some ([.slice none 0 0,.int .u64 ((0:Nat):Int),.int .u64 ((0:Nat):Int),.int .u8 ((0:Nat):Int)]):=by kernel_rfl
theorem W9:gk prog 138=some ([(.string ⟨#[]⟩)]):=by kernel_rfl
theorem L6:gk prog 142=some ([.slice none 0 0,.int .u64 ((0:Nat):Int),.int .u64 ((0:Nat):Int),.int .u8 ((0:Nat):Int)]):=by kernel_rfl
theorem Xa:gk prog 148=some ((aa .u8 (List.replicate 1024 0))):=by kernel_rfl
theorem Xb:gk prog 152=some ((aa .u8 (List.replicate 12 0))):=by kernel_rfl
theorem qF:gk prog 165=some ([.int .u16 ((0:Nat):Int),.int .u8 ((0:Nat):Int),.int .u8 ((0:Nat):Int)]):=by kernel_rfl
theorem L7:gk prog 169=some ([.int .u16 ((0:Nat):Int),(Value.pointer none),.slice none 0 0]):=by kernel_rfl
theorem Fy:gk prog 174=some ([.int .u64 ((0:Nat):Int)]):=by kernel_rfl
theorem Xc:gk prog 179=some ((aa .u16 (List.replicate 12 0))):=by kernel_rfl
theorem Xd:gk prog 180=some ((aa .u16 (List.replicate 16 0))):=by kernel_rfl
theorem L9:gk prog 183=some ([.int .u64 ((0:Nat):Int),.int .u8 ((0:Nat):Int),.slice none 0 0]):=by kernel_rfl
theorem BJ:gk prog 186=some ([.int .u64 ((0:Nat):Int),.int .u64 ((0:Nat):Int),.int .i64 ((0:Nat):Int)]):=by kernel_rfl
theorem Xe:gk prog 197=some ([.int .u32 ((0:Nat):Int),.int .u32 ((0:Nat):Int),.int .u32 ((0:Nat):Int),.int .u32 ((0:Nat):Int),.int .u32 ((0:Nat):Int),.int .u32 ((0:Nat):Int),.int .u32 ((0:Nat):Int),.int .u32 ((0:Nat):Int),.int .u32 ((0:Nat):Int),.int .u32 ((0:Nat):Int),.int .u32 ((0:Nat):Int),.int .u32 ((0:Nat):Int),.int .u32 ((0:Nat):Int),.int .u32 ((0:Nat):Int),.int .u32 ((0:Nat):Int),.int .u32 ((0:Nat):Int),.int .u32 ((0:Nat):Int),.int .u32 ((0:Nat):Int),.int .u32 ((0:Nat):Int),.int .u32 ((0:Nat):Int),.int .u32 ((0:Nat):Int),.int .u32 ((0:Nat):Int),.int .u32 ((0:Nat):Int),.int .u32 ((0:Nat):Int),.int .u32 ((0:Nat):Int),.int .u32 ((0:Nat):Int),.int .u32 ((0:Nat):Int),.int .u32 ((0:Nat):Int),.int .u32 ((0:Nat):Int),.int .u32 ((0:Nat):Int),.int .u32 ((0:Nat):Int),.int .u32 ((0:Nat):Int),.int .u32 ((0:Nat):Int),.int .u32 ((0:Nat):Int),.int .u32 ((0:Nat):Int),.int .u32 ((0:Nat):Int),.int .u32 ((0:Nat):Int),.int .u32 ((0:Nat):Int),.int .u32 ((0:Nat):Int),.int .u32 ((0:Nat):Int),.int .u32 ((0:Nat):Int),.int .u32 ((0:Nat):Int),.int .u32 ((0:Nat):Int),.int .u32 ((0:Nat):Int),.int .u32 ((0:Nat):Int),.int .u32 ((0:Nat):Int),.int .u32 ((0:Nat):Int),.int .u32 ((0:Nat):Int),.int .u32 ((0:Nat):Int),.int .u32 ((0:Nat):Int),.int .u32 ((0:Nat):Int),.int .u32 ((0:Nat):Int),.int .u32 ((0:Nat):Int),.int .u32 ((0:Nat):Int),.int .u32 ((0:Nat):Int),.int .u32 ((0:Nat):Int),.int .u32 ((0:Nat):Int),.int .u32 ((0:Nat):Int),.int .u32 ((0:Nat):Int),.int .u32 ((0:Nat):Int),.int .u32 ((0:Nat):Int),.int .u32 ((0:Nat):Int),.int .u32 ((0:Nat):Int),.int .u32 ((0:Nat):Int)]):=by kernel_rfl
theorem Xf:gk prog 201=some ((aa .u32 (List.replicate 13 0))):=by kernel_rfl
theorem Xg:gk prog 203=some ((aa .i16 (List.replicate 257 0))):=by kernel_rfl
theorem L':gk prog 208=some ([(Value.pointer none),.slice none 0 0,.int .u16 ((0:Nat):Int)]):=by kernel_rfl
theorem Ug:gk prog 71=some ((aa .u32 (List.replicate 256 0))++[.slice none 0 0,.slice none 0 0,.slice none 0 0,.int .i64 ((0:Nat):Int),.int .i64 ((0:Nat):Int),.int .u8 ((0:Nat):Int),.int .u8 ((0:Nat):Int),.int .u8 ((0:Nat):Int),.int .u8 ((0:Nat):Int),.int .u16 ((0:Nat):Int),.int .i64 ((0:Nat):Int),.bool false,.int .u8 ((0:Nat):Int),.int .u8 ((0:Nat):Int),.slice none 0 0,.slice none 0 0,.slice none 0 0,.slice none 0 0,.slice none 0 0,.slice none 0 0,.slice none 0 0,.slice none 0 0,(Value.pointer none)]++(aa .u8 (List.replicate 256 0))):=by kernel_rfl
end Go.Proofs.YtekcchgffhphbaaGreatDoor
namespace Go.Proofs.YtekcchgffhphbaaGreatDoor
open Go
def opV (ρ:ba):Op→Option Value
  | .move x=>ev ρ x
  | .assign x=>ev ρ x
  | .nilCheck x=>match ev ρ x with
    |some (.pointer (some p))=>some (.pointer (some p))
    |_=>none
  | .extract x i=>match ev ρ x with
    |some (.tuple vs)=>vs[i]?
    |_=>none
  | .pick c x y=>match ev ρ c with
    |some (.bool true)=>ev ρ x
    |some (.bool false)=>ev ρ y
    |_=>none
  |_=>none
theorem Xh {P:Program} {ρ:ba} {o:Oper} {v:Value} (h:opV ρ o.op=some v):bB P ρ o v:=by
  cases ho:o.op with
  |move x=>rw[ho] at h;exact AR ho h
  |assign x=>rw[ho] at h;exact pF ho h
  |nilCheck x=>
    rw[ho] at h;simp only[opV] at h;split at h
    · rename_i p hp;rw[←Option.some.inj h];exact alE ho hp
    · cases h
  |extract x i=>
    rw[ho] at h;simp only[opV] at h;split at h
    · rename_i vs hv;exact alF ho hv h
    · cases h
  |pick c x y=>
    rw[ho] at h;simp only[opV] at h;split at h
    · rename_i hc;exact QF ho hc h
    · rename_i hc;exact QG ho hc h
    · cases h
  |_=>rw[ho] at h;simp[opV] at h
def Fz (L:List Oper) (ρ:ba) (n:Nat) (o:Oper):Option Nat:=match want L ρ o with
  |some true=>match o.dst with
    |some d=>bif Nat.blt d n then some d else none
    |none=>none
  |_=>none
def Ar (L:List Oper) (ρ:ba) (n:Nat) (o:Oper):Option (Nat × Value):=match o.dst with
  |some d=>match Nat.blt d n with
    |true=>match want L ρ o with
      |some true=>match opV ρ o.op with
        |some v=>some (d,v)
        |none=>none
      |some false=>some (d,undef)
      |none=>none
    |false=>none
  |none=>none
def Ma (L:List Oper) (n:Nat):Nat→List Oper→ba→Option (List Oper × ba)
  |0,rest,ρ=>some (rest,ρ)
  |k+1,o::rest,ρ=>match Ar L ρ n o with
    |some p=>Ma L n k rest (p::ρ)
    |none=>none
  |_+1,[],_=>none
def lS (i:Nat) (L:List Oper):Oper:=match nth i L with
  |some o=>o
  |none=>default
def Dt (L:List Oper) (ρ:ba) (n i:Nat):Option Nat:=match nth i L with
  |some o=>Fz L ρ n o
  |none=>none
def As (L:List Oper) (ρ:ba) (n i:Nat):Option (Nat × Value):=match nth i L with
  |some o=>Ar L ρ n o
  |none=>none
def FA (L:List Oper) (n:Nat):Nat→List (Nat × Kd)→ba→Option (List (Nat × Kd) × ba)
  |0,os,ρ=>some (os,ρ)
  |k+1,(i,.y)::os,ρ=>match As L ρ n i with
    |some p=>FA L n k os (p::ρ)
    |none=>none
  |_+1,_,_=>none
def runT (L:List Oper) (n:Nat):Nat→Pl→ba→Option (Pl × ba)
  |0,os,ρ=>some (os,ρ)
  |k+1,.st i false os,ρ=>match As L ρ n i with
    |some p=>runT L n k os (p::ρ)
    |none=>none
  |_+1,_,_=>none
def rC (L:List Oper) (n:Nat):List Oper→ba→Option (List Oper × ba)
  |[],ρ=>some ([],ρ)
  |o::rest,ρ=>match Ar L ρ n o with
    |some p=>rC L n rest (p::ρ)
    |none=>some (o::rest,ρ)
def Xi (L:List Oper) (n:Nat) (o:Oper) (v:Value) (rest:List Oper) (ρ:ba):Option (List Oper × ba):=match Fz L ρ n o with
  |some d=>rC L n rest ((d,v)::ρ)
  |none=>none
def Du (L:List Oper) (n:Nat):List (Nat × Kd)→ba→Option (List (Nat × Kd) × ba)
  |[],ρ=>some ([],ρ)
  |(i,.y)::os,ρ=>match As L ρ n i with
    |some p=>Du L n os (p::ρ)
    |none=>some ((i,.y)::os,ρ)
  |(i,.r)::os,ρ=>some ((i,.r)::os,ρ)
  |(i,.e)::os,ρ=>some ((i,.e)::os,ρ)
def Hp (L:List Oper) (n i:Nat) (v:Value) (os:List (Nat × Kd)) (ρ:ba):Option (List (Nat × Kd) × ba):=match Dt L ρ n i with
  |some d=>Du L n os ((d,v)::ρ)
  |none=>none
def Dv (L:List Oper) (n:Nat):Pl→ba→Option (Pl × ba)
  | .st i false os,ρ=>match As L ρ n i with
    |some p=>Dv L n os (p::ρ)
    |none=>some (.st i false os,ρ)
  | .st i true os,ρ=>some (.st i true os,ρ)
  | .nil,ρ=>some (.nil,ρ)
  | .stop,ρ=>some (.stop,ρ)
  | .ef i x y,ρ=>some (.ef i x y,ρ)
  | .er i x y,ρ=>some (.er i x y,ρ)
def Hq (L:List Oper) (n i:Nat) (v:Value) (os:Pl) (ρ:ba):Option (Pl × ba):=match Dt L ρ n i with
  |some d=>Dv L n os ((d,v)::ρ)
  |none=>none
theorem pj {L:List Oper} {ρ:ba} {n d:Nat} {o:Oper} (h:Fz L ρ n o=some d):want L ρ o=some true∧o.dst=some d∧Nat.blt d n=true:=by
  unfold Fz at h;split at h
  · rename_i hw;split at h
    · rename_i d' hd;cases hb:Nat.blt d' n with
      |true=>rw[hb] at h;simp only[cond_true,Option.some.injEq] at h;subst h;exact⟨hw,hd,hb⟩
      |false=>rw[hb] at h;simp at h
    · cases h
  · cases h
theorem oD {P:Program} {L:List Oper} {ρ:ba} {n:Nat} {o:Oper} {p:Nat × Value} (h:Ar L ρ n o=some p):o.dst=some p.1∧Nat.blt p.1 n=true∧((want L ρ o=some true∧bB P ρ o p.2)∨(want L ρ o=some false∧p.2=undef)):=by
  unfold Ar at h;split at h
  · rename_i d hd;split at h
    · rename_i hb;split at h
      · rename_i hw;split at h
        · rename_i v hv;rw[←Option.some.inj h];exact⟨hd,hb,.inl ⟨hw,Xh hv⟩⟩
        · cases h
      · rename_i hw;rw[←Option.some.inj h];exact⟨hd,hb,.inr ⟨hw,rfl⟩⟩
      · cases h
    · cases h
  · cases h
theorem xi {i:Nat} {L:List Oper} {o:Oper} (h:nth i L=some o):lS i L=o:=by unfold lS;rw[h]
theorem xj {L:List Oper} {ρ:ba} {n d i:Nat} (h:Dt L ρ n i=some d):nth i L=some (lS i L)∧Fz L ρ n (lS i L)=some d:=by
  unfold Dt at h;split at h
  · rename_i o ho;rw[xi ho];exact⟨ho,h⟩
  · cases h
theorem uA {L:List Oper} {ρ:ba} {n i:Nat} {p:Nat × Value} (h:As L ρ n i=some p):nth i L=some (lS i L)∧Ar L ρ n (lS i L)=some p:=by
  unfold As at h;split at h
  · rename_i o ho;rw[xi ho];exact⟨ho,h⟩
  · cases h
theorem Sub.ofMap {ρ:ba}:∀{ρ':ba},ρ'.map (fun p=>look p.1 ρ)=ρ'.map (fun p=>some p.2)→Sub ρ' ρ
  |[],_=>trivial
  |p::q,h=>by
    rw[List.map_cons,List.map_cons] at h;exact⟨(List.cons.inj h).1,Sub.ofMap (List.cons.inj h).2⟩
section
variable {P:Program} {K:Kx} {Q:Exit→Act→World→Prop} {ρ ρ':ba} {l r:List aU} {L rest iF:List Oper} {o:Oper} {d i:Nat} {v:Value}
theorem Za (k:Nat) (g:GL P K Q L iF ρ' l r) (h:Ma L K.n k rest ρ=some (iF,ρ'):=by exact rfl):GL P K Q L rest ρ l r:=by
  induction k generalizing rest ρ with
  |zero=>
    simp only[Ma,Option.some.injEq,Prod.mk.injEq] at h;obtain⟨rfl,rfl⟩:=h;exact g
  |succ k ih=>
    cases rest with
    |nil=>simp[Ma] at h
    |cons o rest=>
      simp only[Ma] at h;split at h
      · rename_i p hp;obtain⟨h1,h2,h3⟩:=oD (P:=P) hp;have g':=ih h;rcases h3 with ⟨h4,h5⟩|⟨h4,h5⟩
        · exact GL.y h5 h4 h1 h2 g'
        · refine GL.skip h4 h1 h2 ?_;rw[←h5];exact g'
      · cases h
theorem Zr (h:wx P ρ l r o v) (g:GL P K Q L rest ((d,v)::ρ) l r) (hs:Fz L ρ K.n o=some d:=by exact rfl):GL P K Q L (o::rest) ρ l r:=
  GL.rd h (pj hs).1 (pj hs).2.1 (pj hs).2.2 g
theorem Zy (h:bB P ρ o v) (g:GL P K Q L rest ((d,v)::ρ) l r) (hs:Fz L ρ K.n o=some d:=by exact rfl):GL P K Q L (o::rest) ρ l r:=Zr h.QE g hs
theorem Zs {X:ba} {Y:List aU} (h:oL P K ρ l r o (fun ρ' l'=>ρ'=X∧l'=Y)) (g:GL P K Q L rest X Y r) (hw:want L ρ o=some true:=by exact rfl):GL P K Q L (o::rest) ρ l r:=
  GL.bG h hw fun _ _ ⟨h1,h2⟩=>by subst h1;subst h2;exact g
theorem Ze {X:Nat→ba} {Y:Nat→List aU} (h:oL P K ρ l r o (fun ρ' l'=>∃b,ρ'=X b∧l'=Y b)) (g:∀b,GL P K Q L rest (X b) (Y b) r) (hw:want L ρ o=some true:=by exact rfl):GL P K Q L (o::rest) ρ l r:=
  GL.bG h hw fun _ _ ⟨b,h1,h2⟩=>by subst h1;subst h2;exact g b
theorem Ya (g:GL P K Q L iF ρ' l r) (h:rC L K.n rest ρ=some (iF,ρ'):=by exact rfl):GL P K Q L rest ρ l r:=by
  induction rest generalizing ρ with
  |nil=>simp only[rC,Option.some.injEq,Prod.mk.injEq] at h;obtain⟨rfl,rfl⟩:=h;exact g
  |cons o rest ih=>
    simp only[rC] at h;split at h
    · rename_i p hp;obtain⟨h1,h2,h3⟩:=oD (P:=P) hp;have g':=ih h;rcases h3 with ⟨h4,h5⟩|⟨h4,h5⟩
      · exact GL.y h5 h4 h1 h2 g'
      · refine GL.skip h4 h1 h2 ?_;rw[←h5];exact g'
    · simp only[Option.some.injEq,Prod.mk.injEq] at h;obtain⟨rfl,rfl⟩:=h;exact g
theorem Yr (h:wx P ρ l r o v) (g:GL P K Q L iF ρ' l r) (hs:Xi L K.n o v rest ρ=some (iF,ρ'):=by exact rfl):GL P K Q L (o::rest) ρ l r:=by
  unfold Xi at hs;split at hs
  · rename_i d hd;exact Zr h (Ya g hs) hd
  · cases hs
theorem Yy (h:bB P ρ o v) (g:GL P K Q L iF ρ' l r) (hs:Xi L K.n o v rest ρ=some (iF,ρ'):=by exact rfl):GL P K Q L (o::rest) ρ l r:=Yr h.QE g hs
theorem Ys {X:ba} {Y:List aU} (h:oL P K ρ l r o (fun ρ' l'=>ρ'=X∧l'=Y)) (g:GL P K Q L iF ρ' Y r) (hw:want L ρ o=some true:=by exact rfl) (hs:rC L K.n rest X=some (iF,ρ'):=by exact rfl):GL P K Q L (o::rest) ρ l r:=Zs h (Ya g hs) hw
variable {os P7:List (Nat × Kd)}
theorem Zpa (k:Nat) (g:GP P K Q L P7 ρ' l r) (h:FA L K.n k os ρ=some (P7,ρ'):=by exact rfl):GP P K Q L os ρ l r:=by
  induction k generalizing os ρ with
  |zero=>
    simp only[FA,Option.some.injEq,Prod.mk.injEq] at h;obtain⟨rfl,rfl⟩:=h;exact g
  |succ k ih=>
    match os,h with
    |(i,.y)::os,h=>
      simp only[FA] at h;split at h
      · rename_i p hp;obtain⟨h0,Jx⟩:=uA hp;obtain⟨h1,h2,h3⟩:=oD (P:=P) Jx;have g':=ih h;rcases h3 with ⟨h4,h5⟩|⟨h4,h5⟩
        · exact GP.y h5 h0 h4 h1 h2 g'
        · refine GP.skip h0 h4 h1 h2 ?_;rw[←h5];exact g'
      · cases h
    |[],h=>simp[FA] at h
    |(i,.r)::os,h=>simp[FA] at h
    |(i,.e)::os,h=>simp[FA] at h
theorem Zpy (h:bB P ρ (lS i L) v) (g:GP P K Q L os ((d,v)::ρ) l r) (hs:Dt L ρ K.n i=some d:=by exact rfl):GP P K Q L ((i,.y)::os) ρ l r:=by
  obtain⟨h0,h1⟩:=xj hs;obtain⟨h2,h3,h4⟩:=pj h1;exact GP.y h h0 h2 h3 h4 g
theorem Zpr (h:wx P ρ l r (lS i L) v) (g:GP P K Q L os ((d,v)::ρ) l r) (hs:Dt L ρ K.n i=some d:=by exact rfl):GP P K Q L ((i,.r)::os) ρ l r:=by
  obtain⟨h0,h1⟩:=xj hs;obtain⟨h2,h3,h4⟩:=pj h1;exact GP.rd h h0 h2 h3 h4 g
theorem cJ (g:GP P K Q L P7 ρ' l r) (h:Du L K.n os ρ=some (P7,ρ'):=by exact rfl):GP P K Q L os ρ l r:=by
  induction os generalizing ρ with
  |nil=>simp only[Du,Option.some.injEq,Prod.mk.injEq] at h;obtain⟨rfl,rfl⟩:=h;exact g
  |cons o os ih=>
    obtain⟨i,k⟩:=o;cases k with
    |y=>
      simp only[Du] at h;split at h
      · rename_i p hp;obtain⟨h0,Jx⟩:=uA hp;obtain⟨h1,h2,h3⟩:=oD (P:=P) Jx;have g':=ih h;rcases h3 with ⟨h4,h5⟩|⟨h4,h5⟩
        · exact GP.y h5 h0 h4 h1 h2 g'
        · refine GP.skip h0 h4 h1 h2 ?_;rw[←h5];exact g'
      · simp only[Option.some.injEq,Prod.mk.injEq] at h;obtain⟨rfl,rfl⟩:=h;exact g
    |r=>simp only[Du,Option.some.injEq,Prod.mk.injEq] at h;obtain⟨rfl,rfl⟩:=h;exact g
    |e=>simp only[Du,Option.some.injEq,Prod.mk.injEq] at h;obtain⟨rfl,rfl⟩:=h;exact g
theorem ag (h:bB P ρ (lS i L) v) (g:GP P K Q L P7 ρ' l r) (hs:Hp L K.n i v os ρ=some (P7,ρ'):=by exact rfl):GP P K Q L ((i,.y)::os) ρ l r:=by
  unfold Hp at hs;split at hs
  · rename_i d hd;exact Zpy h (cJ g hs) hd
  · cases hs
theorem aW (h:wx P ρ l r (lS i L) v) (g:GP P K Q L P7 ρ' l r) (hs:Hp L K.n i v os ρ=some (P7,ρ'):=by exact rfl):GP P K Q L ((i,.r)::os) ρ l r:=by
  unfold Hp at hs;split at hs
  · rename_i d hd;exact Zpr h (cJ g hs) hd
  · cases hs
def uB (L:List Oper) (ρ:ba) (i:Nat):Option Bool:=match nth i L with
  |some o=>want L ρ o
  |none=>none
theorem oE {L:List Oper} {ρ:ba} {i:Nat} {b:Bool} (h:uB L ρ i=some b):nth i L=some (lS i L)∧want L ρ (lS i L)=some b:=by
  unfold uB at h;split at h
  · rename_i o ho;rw[xi ho];exact⟨ho,h⟩
  · cases h
theorem Zps {X:ba} {Y:List aU} (h:oL P K ρ l r (lS i L) (fun ρ' l'=>ρ'=X∧l'=Y)) (g:GP P K Q L os X Y r) (hw:uB L ρ i=some true:=by exact rfl):GP P K Q L ((i,.e)::os) ρ l r:=
  GP.bG h (oE hw).1 (oE hw).2 fun _ _ ⟨h1,h2⟩=>by subst h1;subst h2;exact g
theorem Zpe {X:Nat→ba} {Y:Nat→List aU} (h:oL P K ρ l r (lS i L) (fun ρ' l'=>∃b,ρ'=X b∧l'=Y b)) (g:∀b,GP P K Q L os (X b) (Y b) r) (hw:uB L ρ i=some true:=by exact rfl):GP P K Q L ((i,.e)::os) ρ l r:=
  GP.bG h (oE hw).1 (oE hw).2 fun _ _ ⟨b,h1,h2⟩=>by subst h1;subst h2;exact g b
theorem ju {X:ba} {Y:List aU} (h:oL P K ρ l r (lS i L) (fun ρ' l'=>ρ'=X∧l'=Y)) (g:GP P K Q L P7 ρ' Y r) (hw:uB L ρ i=some true:=by exact rfl) (hs:Du L K.n os X=some (P7,ρ'):=by exact rfl):GP P K Q L ((i,.e)::os) ρ l r:=Zps h (cJ g hs) hw
variable {pl Ji alt:Pl}
theorem Zta (k:Nat) (g:GT P K Q L Ji ρ' l r) (h:runT L K.n k pl ρ=some (Ji,ρ'):=by exact rfl):GT P K Q L pl ρ l r:=by
  induction k generalizing pl ρ with
  |zero=>
    simp only[runT,Option.some.injEq,Prod.mk.injEq] at h;obtain⟨rfl,rfl⟩:=h;exact g
  |succ k ih=>
    match pl,h with
    | .st i false os,h=>
      simp only[runT] at h;split at h
      · rename_i p hp;obtain⟨h0,Jx⟩:=uA hp;obtain⟨h1,h2,h3⟩:=oD (P:=P) Jx;have g':=ih h;rcases h3 with ⟨h4,h5⟩|⟨h4,h5⟩
        · exact GT.y h5 h0 h4 h1 h2 g'
        · refine GT.skip h0 h4 h1 h2 ?_;rw[←h5];exact g'
      · cases h
    | .st i true os,h=>simp[runT] at h
    | .nil,h=>simp[runT] at h
    | .stop,h=>simp[runT] at h
    | .ef i a b,h=>simp[runT] at h
theorem mO (h:bB P ρ (lS i L) v) (g:GT P K Q L pl ((d,v)::ρ) l r) (hs:Dt L ρ K.n i=some d:=by exact rfl):GT P K Q L (.st i false pl) ρ l r:=by
  obtain⟨h0,h1⟩:=xj hs;obtain⟨h2,h3,h4⟩:=pj h1;exact GT.y h h0 h2 h3 h4 g
theorem Ztr (h:wx P ρ l r (lS i L) v) (g:GT P K Q L pl ((d,v)::ρ) l r) (hs:Dt L ρ K.n i=some d:=by exact rfl):GT P K Q L (.st i true pl) ρ l r:=by
  obtain⟨h0,h1⟩:=xj hs;obtain⟨h2,h3,h4⟩:=pj h1;exact GT.rd h h0 h2 h3 h4 g
theorem eE (g:GT P K Q L Ji ρ' l r) (h:Dv L K.n pl ρ=some (Ji,ρ'):=by exact rfl):GT P K Q L pl ρ l r:=by
  induction pl generalizing ρ with
  |st i k os ih=>
    cases k with
    |false=>
      simp only[Dv] at h;split at h
      · rename_i p hp;obtain⟨h0,Jx⟩:=uA hp;obtain⟨h1,h2,h3⟩:=oD (P:=P) Jx;have g':=ih h;rcases h3 with ⟨h4,h5⟩|⟨h4,h5⟩
        · exact GT.y h5 h0 h4 h1 h2 g'
        · refine GT.skip h0 h4 h1 h2 ?_;rw[←h5];exact g'
      · simp only[Option.some.injEq,Prod.mk.injEq] at h;obtain⟨rfl,rfl⟩:=h;exact g
    |true=>simp only[Dv,Option.some.injEq,Prod.mk.injEq] at h;obtain⟨rfl,rfl⟩:=h;exact g
  |_=>simp only[Dv,Option.some.injEq,Prod.mk.injEq] at h;obtain⟨rfl,rfl⟩:=h;exact g
theorem ch (h:bB P ρ (lS i L) v) (g:GT P K Q L Ji ρ' l r) (hs:Hq L K.n i v pl ρ=some (Ji,ρ'):=by exact rfl):GT P K Q L (.st i false pl) ρ l r:=by
  unfold Hq at hs;split at hs
  · rename_i d hd;exact mO h (eE g hs) hd
  · cases hs
theorem gB (h:wx P ρ l r (lS i L) v) (g:GT P K Q L Ji ρ' l r) (hs:Hq L K.n i v pl ρ=some (Ji,ρ'):=by exact rfl):GT P K Q L (.st i true pl) ρ l r:=by
  unfold Hq at hs;split at hs
  · rename_i d hd;exact Ztr h (eE g hs) hd
  · cases hs
theorem Zts {X:ba} {Y:List aU} (h:oL P K ρ l r (lS i L) (fun ρ' l'=>ρ'=X∧l'=Y)) (g:GT P K Q L pl X Y r) (a:GT P K Q L alt ρ l r) (hw:uB L ρ i=some true:=by exact rfl):GT P K Q L (.ef i pl alt) ρ l r:=
  GT.bG h (oE hw).1 (oE hw).2 (fun _ _ ⟨h1,h2⟩=>by subst h1;subst h2;exact g) a
theorem Yts {X:ba} {Y:List aU} (h:oL P K ρ l r (lS i L) (fun ρ' l'=>ρ'=X∧l'=Y)) (g:GT P K Q L Ji ρ' Y r) (a:GT P K Q L alt ρ l r) (hw:uB L ρ i=some true:=by exact rfl) (hs:Dv L K.n pl X=some (Ji,ρ'):=by exact rfl):GT P K Q L (.ef i pl alt) ρ l r:=Zts h (eE g hs) a hw
theorem eA {X:ba} {Y:List aU} (h:oL P K ρ l r (lS i L) (fun ρ' l'=>ρ'=X∧l'=Y)) (g:GT P K Q L Ji ρ' Y r) (hw:uB L ρ i=some true:=by exact rfl) (hs:Dv L K.n pl X=some (Ji,ρ'):=by exact rfl):GT P K Q L (.ef i pl .stop) ρ l r:=Yts h g GT.stop hw hs
theorem Xtt {X:ba} {Y:List aU} (h:oL P K ρ l r (lS i L) (fun ρ' l'=>ρ'=X∧l'=Y)) (g:GT P K Q L pl X Y r) (hw:uB L ρ i=some true:=by exact rfl):GT P K Q L (.ef i pl .stop) ρ l r:=Zts h g GT.stop hw
end
section
variable {P:Program} {K:Kx} {Q:Exit→Act→World→Prop} {ρ ρ0:ba} {l r:List aU} {L:List Oper} {x y z:Code} {id:Nat}
theorem Zn (h:G P K Q y ρ l r):GL P K (Exit.then (y.wp P Q) Q) L [] ρ l r:=GL.nil (GQ.ae h)
theorem Zw1 {id:Nat} {L2:List Oper} (h:GL P K Q L2 L2 ρ l r):GL P K (Exit.then ((Code.region id L2.toArray false).wp P Q) Q) L [] ρ l r:=Zn (G.region h)
theorem Zw2 {id:Nat} {L2:List Oper} (h:GL P K (Exit.then (y.wp P Q) Q) L2 L2 ρ l r):GL P K (Exit.then ((Code.seq (.region id L2.toArray false) y).wp P Q) Q) L [] ρ l r:=Zn (G.seq (G.region h))
theorem Zw3 {id:Nat} {L2:List Oper} (h:GL P K (Exit.then (y.wp P (Exit.then (z.wp P Q) Q)) (Exit.then (z.wp P Q) Q)) L2 L2 ρ l r):GL P K (Exit.then ((Code.seq (.seq (.region id L2.toArray false) y) z).wp P Q) Q) L [] ρ l r:=Zn (G.seq (G.seq (G.region h)))
theorem cf (h:G P K (Exit.then (y.wp P Q) Q) x ρ l r):GL P K (Exit.then ((Code.seq x y).wp P Q) Q) L [] ρ l r:=Zn (G.seq h)
theorem Zw5 {id:Nat} {L2:List Oper} (h:GL P K (Exit.then (y.wp P Q) Q) L2 L2 ρ l r):G P K Q (.seq (.region id L2.toArray false) y) ρ l r:=G.seq (G.region h)
theorem Zw6 {id:Nat} {L2:List Oper} (h:GL P K (Exit.then (y.wp P (Exit.then (z.wp P Q) Q)) (Exit.then (z.wp P Q) Q)) L2 L2 ρ l r):G P K Q (.seq (.seq (.region id L2.toArray false) y) z) ρ l r:=G.seq (G.seq (G.region h))
theorem bK (h:G P K Q y ρ l r):G P K (Exit.then (y.wp P Q) Q) .skip ρ l r:=G.skip (GQ.ae h)
theorem Zw8 {id:Nat} {L2:List Oper} (h:GL P K (Exit.then (y.wp P Q) Q) L2 L2 ρ l r):G P K (Exit.then ((Code.seq (.region id L2.toArray false) y).wp P Q) Q) .skip ρ l r:=bK (G.seq (G.region h))
theorem Zb {I:Nat→ba→List aU→Prop} {n m:Nat} (hI:I m ρ0 l) (hm:m<n:=by omega) (hs:ρ0.map (fun p=>look p.1 ρ)=ρ0.map (fun p=>some p.2):=by exact rfl):GQ K (Exit.then (Jz K I r n) Q) .normal ρ l r:=GQ.back hm hI (Sub.ofMap hs)
theorem Zm {M:ba→List aU→Prop} (hM:M ρ0 l) (hs:ρ0.map (fun p=>look p.1 ρ)=ρ0.map (fun p=>some p.2):=by exact rfl):GQ K (Exit.then (fun a w=>∃ρ l,M ρ l∧At K ρ l r a w) Q) .normal ρ l r:=GQ.meet hM (Sub.ofMap hs)
theorem Zo {c:Code} (I:Nat→ba→List aU→Prop) {n:Nat} (h0:I n ρ0 l) (h:∀n ρ l,I n ρ l→G P K (Exit.then (Jz K I r n) Q) c ρ l r) (hs:ρ0.map (fun p=>look p.1 ρ)=ρ0.map (fun p=>some p.2):=by exact rfl):G P K Q (.loop c) ρ l r:=G.loop I h0 (Sub.ofMap hs) h
theorem Zc {c:Operand} {p:Prop} [Decidable p] (ht:p→G P K Q x ρ l r) (hf:¬p→G P K Q y ρ l r) (hc:ev ρ c=some (.bool (decide p)):=by exact rfl):G P K Q (.cond c x y) ρ l r:=G.Jy hc ht hf
end
section
variable {P:Program} {K:Kx} {Q:Exit→Act→World→Prop} {ρ ρ':ba} {l r:List aU} {L2 iF:List Oper} {L:List Oper} {x y z:Code} {id:Nat}
theorem YG (h:GL P K Q L2 iF ρ' l r) (hs:rC L2 K.n L2 ρ=some (iF,ρ'):=by exact rfl):G P K Q (.region id L2.toArray false) ρ l r:=G.region (Ya h hs)
theorem Y1 (h:GL P K Q L2 iF ρ' l r) (hs:rC L2 K.n L2 ρ=some (iF,ρ'):=by exact rfl):GL P K (Exit.then ((Code.region id L2.toArray false).wp P Q) Q) L [] ρ l r:=Zw1 (Ya h hs)
theorem Y2 (h:GL P K (Exit.then (y.wp P Q) Q) L2 iF ρ' l r) (hs:rC L2 K.n L2 ρ=some (iF,ρ'):=by exact rfl):GL P K (Exit.then ((Code.seq (.region id L2.toArray false) y).wp P Q) Q) L [] ρ l r:=Zw2 (Ya h hs)
theorem Y3 (h:GL P K (Exit.then (y.wp P (Exit.then (z.wp P Q) Q)) (Exit.then (z.wp P Q) Q)) L2 iF ρ' l r) (hs:rC L2 K.n L2 ρ=some (iF,ρ'):=by exact rfl):GL P K (Exit.then ((Code.seq (.seq (.region id L2.toArray false) y) z).wp P Q) Q) L [] ρ l r:=Zw3 (Ya h hs)
theorem Y5 (h:GL P K (Exit.then (y.wp P Q) Q) L2 iF ρ' l r) (hs:rC L2 K.n L2 ρ=some (iF,ρ'):=by exact rfl):G P K Q (.seq (.region id L2.toArray false) y) ρ l r:=Zw5 (Ya h hs)
theorem Y6 (h:GL P K (Exit.then (y.wp P (Exit.then (z.wp P Q) Q)) (Exit.then (z.wp P Q) Q)) L2 iF ρ' l r) (hs:rC L2 K.n L2 ρ=some (iF,ρ'):=by exact rfl):G P K Q (.seq (.seq (.region id L2.toArray false) y) z) ρ l r:=Zw6 (Ya h hs)
theorem Y8 (h:GL P K (Exit.then (y.wp P Q) Q) L2 iF ρ' l r) (hs:rC L2 K.n L2 ρ=some (iF,ρ'):=by exact rfl):G P K (Exit.then ((Code.seq (.region id L2.toArray false) y).wp P Q) Q) .skip ρ l r:=Zw8 (Ya h hs)
end
section
variable {P:Program} {ρ:ba} {o:Oper} {x y:Operand} {s f n t b q len cap sz:Nat} {l r:List aU} {v:Value} {k k':IntKind} {ty cT:TypeId}
theorem Zf (hP:fieldOff P s f=some n) (ho:o.op=.fieldAddr s x f:=by exact rfl) (hx:ev ρ x=some (.pointer (some ⟨b,q,none⟩)):=by exact rfl):bB P ρ o (.pointer (some ⟨b,q+n,none⟩)):=alH ho hx hP
theorem aY {p:Option Addr} {a:Call} {s:Nat} (hu:P.underlying t=some (.slice s)) (ho:o.op=.call a:=by exact rfl) (hc:a.callee=.builtin .len:=by exact rfl) (hx:evs ρ a.args.toList=some [.slice p len cap]:=by exact rfl) (ht:a.argTypes= #[t]:=by exact rfl):bB P ρ o (.int .i64 ((len:Nat):Int)):=ady ho hc hx ht hu
theorem fW (m n:Nat) (ho:o.op=.binOp .lss ty x y cT:=by exact rfl) (hx:ev ρ x=some (.int k ((m:Nat):Int)):=by exact rfl) (hy:ev ρ y=some (.int k ((n:Nat):Int)):=by exact rfl):bB P ρ o (.bool (decide (((m:Nat):Int)<((n:Nat):Int)))):=Ex ho hx hy
theorem xk (m n:Nat) (ho:o.op=.binOp .leq ty x y cT:=by exact rfl) (hx:ev ρ x=some (.int k ((m:Nat):Int)):=by exact rfl) (hy:ev ρ y=some (.int k ((n:Nat):Int)):=by exact rfl):bB P ρ o (.bool (decide (((m:Nat):Int)≤((n:Nat):Int)))):=JD ho hx hy
theorem fX (m n:Nat) (ho:o.op=.binOp .gtr ty x y cT:=by exact rfl) (hx:ev ρ x=some (.int k ((m:Nat):Int)):=by exact rfl) (hy:ev ρ y=some (.int k ((n:Nat):Int)):=by exact rfl):bB P ρ o (.bool (decide (((n:Nat):Int)<((m:Nat):Int)))):=HT ho hx hy
theorem kf (m n:Nat) (ho:o.op=.binOp .geq ty x y cT:=by exact rfl) (hx:ev ρ x=some (.int k ((m:Nat):Int)):=by exact rfl) (hy:ev ρ y=some (.int k ((n:Nat):Int)):=by exact rfl):bB P ρ o (.bool (decide (((n:Nat):Int)≤((m:Nat):Int)))):=JE ho hx hy
theorem gr (m n:Nat) (ho:o.op=.binOp .eql ty x y cT:=by exact rfl) (hx:ev ρ x=some (.int k ((m:Nat):Int)):=by exact rfl) (hy:ev ρ y=some (.int k ((n:Nat):Int)):=by exact rfl):bB P ρ o (.bool (decide (((m:Nat):Int)=((n:Nat):Int)))):=wy ho hx hy
theorem Ck (m n:Nat) (ho:o.op=.binOp .neq ty x y cT:=by exact rfl) (hx:ev ρ x=some (.int k ((m:Nat):Int)):=by exact rfl) (hy:ev ρ y=some (.int k ((n:Nat):Int)):=by exact rfl):bB P ρ o (.bool (decide (((m:Nat):Int)≠((n:Nat):Int)))):=alG ho hx hy
theorem Zq {A:Nat} (B:Nat) (h:bB P ρ o (.int k ((A:Nat):Int))) (e:A=B:=by omega):bB P ρ o (.int k ((B:Nat):Int)):=e▸h
theorem nF {A:Nat} (B:Nat) (h:wx P ρ l r o (.int k ((A:Nat):Int))) (e:A=B:=by omega):wx P ρ l r o (.int k ((B:Nat):Int)):=e▸h
theorem Zx (q' m:Nat) (hP:cy P t=some 1) (ho:o.op=.indexAddr t x y:=by exact rfl) (hx:ev ρ x=some (.slice (some ⟨b,q,none⟩) len cap):=by exact rfl) (hy:ev ρ y=some (.int k (m:Nat)):=by exact rfl) (h:m<len:=by omega) (hq:q+m=q':=by omega):bB P ρ o (.pointer (some ⟨b,q',none⟩)):=ads ho hx hy hP h hq
theorem uW (q' m:Nat) (hP:ew P t=some (n,sz)) (ho:o.op=.indexAddr t x y:=by exact rfl) (hx:ev ρ x=some (.pointer (some ⟨b,q,none⟩)):=by exact rfl) (hy:ev ρ y=some (.int k (m:Nat)):=by exact rfl) (h:m<n:=by omega) (hq:q+m*sz=q':=by omega):bB P ρ o (.pointer (some ⟨b,q',none⟩)):=adt ho hx hy hP h hq
theorem dE (q' m:Nat) (hP:ew P t=some (n,1)) (ho:o.op=.indexAddr t x y:=by exact rfl) (hx:ev ρ x=some (.pointer (some ⟨b,q,none⟩)):=by exact rfl) (hy:ev ρ y=some (.int k (m:Nat)):=by exact rfl) (h:m<n:=by omega) (hq:q+m=q':=by omega):bB P ρ o (.pointer (some ⟨b,q',none⟩)):=adu ho hx hy hP h hq
theorem Zl {sg:aU} (i j:Nat) (hP:fS P t=some false) (hs:nthS i l=some sg:=by exact rfl) (ho:o.op=.load t x:=by exact rfl) (hx:ev ρ x=some (.pointer (some ⟨sg.b,q,none⟩)):=by exact rfl) (hq:q=sg.o+j:=by exact rfl) (hc:sg.cs[j]? =some v:=by exact rfl):wx P ρ l r o v:=bf i j hs ho hx hP hq hc
theorem Zk {sg:aU} (i j:Nat) (hP:fS P t=some false) (hs:nthS i r=some sg:=by exact rfl) (ho:o.op=.load t x:=by exact rfl) (hx:ev ρ x=some (.pointer (some ⟨sg.b,q,none⟩)):=by exact rfl) (hq:q=sg.o+j:=by exact rfl) (hc:sg.cs[j]? =some v:=by exact rfl):wx P ρ l r o v:=mw i j hs ho hx hP hq hc
theorem oM {sg:aU} (i j:Nat) (hP:fS P t=some false) (hs:nthS i l=some sg) (hc:sg.cs[j]? =some v) (ho:o.op=.load t x:=by exact rfl) (hx:ev ρ x=some (.pointer (some ⟨sg.b,q,none⟩)):=by exact rfl) (hq:q=sg.o+j:=by exact rfl):wx P ρ l r o v:=bf i j hs ho hx hP hq hc
theorem iW {sg:aU} (i j:Nat) (hP:fS P t=some false) (hs:nthS i r=some sg) (hc:sg.cs[j]? =some v) (ho:o.op=.load t x:=by exact rfl) (hx:ev ρ x=some (.pointer (some ⟨sg.b,q,none⟩)):=by exact rfl) (hq:q=sg.o+j:=by exact rfl):wx P ρ l r o v:=mw i j hs ho hx hP hq hc
theorem Cl {sg:aU} {vs:List Value} {n:Nat} (i j:Nat) (hP:fS P t=some true) (hz:cY P t=some n) (hs:nthS i l=some sg:=by exact rfl) (ho:o.op=.load t x:=by exact rfl) (hx:ev ρ x=some (.pointer (some ⟨sg.b,q,none⟩)):=by exact rfl) (hq:q=sg.o+j:=by exact rfl) (hv:(sg.cs.drop j).take n=vs:=by exact rfl) (hn:vs.length=n:=by exact rfl):wx P ρ l r o (.agg vs.toArray):=zI i j hs ho hx hP hz hq hv hn
end
section
variable {P:Program} {K:Kx} {ρ:ba} {l r:List aU} {o:Oper} {x y:Operand} {t q n:Nat} {v:Value}
theorem aP {sg:aU} (i j:Nat) (hP:cY P t=some 1) (hs:nthS i l=some sg:=by exact rfl) (ho:o.op=.store t x y:=by exact rfl) (hx:ev ρ x=some (.pointer (some ⟨sg.b,q,none⟩)):=by exact rfl) (hy:ev ρ y=some v:=by exact rfl) (hv:v.oneCell'=true:=by exact rfl) (hq:q=sg.o+j:=by exact rfl) (hj:Nat.ble (j+1) sg.cs.length=true:=by exact rfl) (hd:o.dst=none:=by exact rfl):oL P K ρ l r o (fun ρ' l'=>ρ'=ρ∧l'=setS i ⟨sg.b,sg.o,sg.cs.set j v,sg.sh⟩ l):=gj i j hs ho hx hy hP hv hq (Nat.le_of_ble_eq_true hj) hd rfl
end
theorem Ov {p:Prop} (h:p:=by first|rfl|simp[Instr.fill,Value.cells,vg,vh,vi]):p:=h
section
variable {P:Program} {K:Kx} {ρ:ba} {l r:List aU} {o:Oper} {x y:Operand} {t q n b off v d f:Nat} {k k':IntKind} {D:List Nat} {sh:Option (TypeId × Nat)}
theorem eP (i j:Nat) (hP:cY P t=some 1) (hs:nthS i l=some ⟨b,off,aa k D,sh⟩:=by exact rfl) (ho:o.op=.store t x y:=by exact rfl) (hx:ev ρ x=some (.pointer (some ⟨b,q,none⟩)):=by exact rfl) (hy:ev ρ y=some (.int k ((v:Nat):Int)):=by exact rfl) (hd:o.dst=none:=by exact rfl)
    (hq:q=off+j:=by first|rfl|exact(Nat.zero_add _).symm|omega) (hj:j<D.length:=by first|omega|(simp;omega)|simp):oL P K ρ l r o (fun ρ' l'=>ρ'=ρ∧l'=setS i ⟨b,off,aa k (D.set j v),sh⟩ l):=
  gj i j hs ho hx hy hP rfl hq (by rw[iO];exact hj) hd (xF _ _ _ _)
theorem Zsa (i j:Nat) (hP:cY P t=some 1) (hs:nthS i l=some ⟨b,off,aa k D,sh⟩:=by exact rfl) (ho:o.op=.store t x y:=by exact rfl) (hx:ev ρ x=some (.pointer (some ⟨b,q,none⟩)):=by exact rfl) (hy:ev ρ y=some (.agg #[.int k ((v:Nat):Int)]):=by exact rfl) (hd:o.dst=none:=by exact rfl)
    (hq:q=off+j:=by first|rfl|exact(Nat.zero_add _).symm|omega) (hj:j<D.length:=by first|omega|(simp;omega)|simp):oL P K ρ l r o (fun ρ' l'=>ρ'=ρ∧l'=setS i ⟨b,off,aa k (D.set j v),sh⟩ l):=
  GB (vs:=[.int k ((v:Nat):Int)]) i j hs ho hx hy hP rfl rfl hq (by show j+1≤(aa k D).length;rw[iO];exact hj) hd (by show(aa k D).set j _=_;exact xF _ _ _ _)
theorem iZ {sg:aU} {vs:List Value} (i:Nat) (hP:cY P t=some n) (hs:nthS i l=some sg:=by exact rfl) (ho:o.op=.store t x y:=by exact rfl) (hx:ev ρ x=some (.pointer (some ⟨sg.b,q,none⟩)):=by exact rfl) (hy:ev ρ y=some (.agg vs.toArray):=by exact rfl) (hd:o.dst=none:=by exact rfl) (hq:q=sg.o:=by exact rfl)
    (hn:vs.length=n:=by exact rfl) (hv:(vs.all fun u=>u.oneCell')=true:=by exact rfl) (hj:Nat.ble n sg.cs.length=true:=by exact rfl) (hc:spl sg.cs 0 vs=vs:=by exact rfl):oL P K ρ l r o (fun ρ' l'=>ρ'=ρ∧l'=setS i ⟨sg.b,sg.o,vs,sg.sh⟩ l):=
  GB i 0 hs ho hx hy hP hn hv hq (by rw[Nat.zero_add];exact Nat.le_of_ble_eq_true hj) hd hc
theorem kO {cs:List Value} (hz:gk P t=some cs) (ho:o.op=.alloc t:=by exact rfl) (hd:o.dst=some d:=by exact rfl) (hn:Nat.blt d K.n=true:=by exact rfl):
    oL P K ρ l r o (fun ρ' l'=>∃b,ρ'=(d,.pointer (some ⟨b,0,none⟩))::ρ∧l'=⟨b,0,cs,none⟩::l):=alJ ho hz hd hn
def Au (L:List Oper) (o:Oper) (n:Nat) (ρ:ba) (l r:List aU) (is rs:List Nat):Option (Nat × FuncId × List Value × List aU × List aU × List aU):=match want L ρ o with
  |some true=>match o.op with
    | .call c=>match c.callee with
      | .value (.func f)=>match evs ρ c.args.toList with
        |some args=>match pickS is l with
          |some (lc,rest)=>match pickR rs (rest++r) with
            |some rc=>match o.dst with
              |some d=>match Nat.blt d n with
                |true=>some (d,f,args,lc,rest,rc)
                |false=>none
              |none=>none
            |none=>none
          |none=>none
        |none=>none
      |_=>none
    |_=>none
  |_=>none
def Av (L:List Oper) (i n:Nat) (ρ:ba) (l r:List aU) (is rs:List Nat):Option (Nat × FuncId × List Value × List aU × List aU × List aU):=match nth i L with
  |some o=>Au L o n ρ l r is rs
  |none=>none
theorem oF {f:FuncId} {L:List Oper} {is rs:List Nat} {args:List Value} {lc rest rc:List aU} {ee:Value→List aU→Prop} (h:Au L o K.n ρ l r is rs=some (d,f,args,lc,rest,rc)) (uX:bI P f args lc rc ee):
    want L ρ o=some true∧oL P K ρ l r o (fun ρ' l'=>∃v wB,ee v wB∧ρ'=(d,v)::ρ∧l'=wB++rest):=by
  unfold Au at h;repeat' split at h
  all_goals first
    |(cases h;exact⟨Oa,u9 is rs uX Oa Oa Oa Oa Oa Oa Oa⟩)
    |cases h
theorem oG {L:List Oper} {i:Nat} {is rs:List Nat} {z:Nat × FuncId × List Value × List aU × List aU × List aU} (h:Av L i n ρ l r is rs=some z):nth i L=some (lS i L)∧Au L (lS i L) n ρ l r is rs=some z:=by
  unfold Av at h;split at h
  · rename_i o ho;rw[xi ho];exact⟨ho,h⟩
  · cases h
variable {Q:Exit→Act→World→Prop} {L rest:List Oper} {fi:FuncId} {args:List Value} {lc l2 rc l1:List aU} {u:Value} {ee:Value→List aU→Prop} {i:Nat} {os:List (Nat × Kd)} {pl alt:Pl}
theorem et (is rs:List Nat) (uX:bI P fi args lc rc ee) (hc:Au L o K.n ρ l r is rs=some (d,fi,args,lc,l2,rc)) (g:∀v l1,ee v l1→GL P K Q L rest ((d,v)::ρ) (l1++l2) r):GL P K Q L (o::rest) ρ l r:=
  GL.bG (oF hc uX).2 (oF hc uX).1 fun _ _ ⟨v,l1,h,h1,h2⟩=>by subst h1;subst h2;exact g v l1 h
theorem di (is rs:List Nat) (uX:bI P fi args lc rc (fun v l'=>v=u∧l'=l1)) (hc:Au L o K.n ρ l r is rs=some (d,fi,args,lc,l2,rc)) (g:GL P K Q L rest ((d,u)::ρ) (l1++l2) r):GL P K Q L (o::rest) ρ l r:=
  et is rs uX hc fun _ _ ⟨h1,h2⟩=>by subst h1;subst h2;exact g
theorem Xj (is rs:List Nat) (uX:bI P fi args lc rc ee) (hc:Av L i K.n ρ l r is rs=some (d,fi,args,lc,l2,rc)) (g:∀v l1,ee v l1→GP P K Q L os ((d,v)::ρ) (l1++l2) r):GP P K Q L ((i,.e)::os) ρ l r:=
  GP.bG (oF (oG hc).2 uX).2 (oG hc).1 (oF (oG hc).2 uX).1 fun _ _ ⟨v,l1,h,h1,h2⟩=>by subst h1;subst h2;exact g v l1 h
theorem gd (is rs:List Nat) (uX:bI P fi args lc rc (fun v l'=>v=u∧l'=l1)) (hc:Av L i K.n ρ l r is rs=some (d,fi,args,lc,l2,rc)) (g:GP P K Q L os ((d,u)::ρ) (l1++l2) r):GP P K Q L ((i,.e)::os) ρ l r:=
  Xj is rs uX hc fun _ _ ⟨h1,h2⟩=>by subst h1;subst h2;exact g
theorem jq (is rs:List Nat) (uX:bI P fi args lc rc ee) (hc:Av L i K.n ρ l r is rs=some (d,fi,args,lc,l2,rc)) (g:∀v l1,ee v l1→GT P K Q L pl ((d,v)::ρ) (l1++l2) r) (a:GT P K Q L alt ρ l r):GT P K Q L (.ef i pl alt) ρ l r:=
  GT.bG (oF (oG hc).2 uX).2 (oG hc).1 (oF (oG hc).2 uX).1 (fun _ _ ⟨v,l1,h,h1,h2⟩=>by subst h1;subst h2;exact g v l1 h) a
theorem dJ (is rs:List Nat) (uX:bI P fi args lc rc (fun v l'=>v=u∧l'=l1)) (hc:Av L i K.n ρ l r is rs=some (d,fi,args,lc,l2,rc)) (g:GT P K Q L pl ((d,u)::ρ) (l1++l2) r) (a:GT P K Q L alt ρ l r):GT P K Q L (.ef i pl alt) ρ l r:=
  jq is rs uX hc (fun _ _ ⟨h1,h2⟩=>by subst h1;subst h2;exact g) a
theorem Zi {fn:Func} {c:Code} (hf:P.funcs[fi]? =some fn) (hb:fn.body=some c) (h:∀w0,G P ⟨fn.ntmps,l,w0⟩ (bodyPost P fn (Ends ee l r w0)) c (frArgs 0 args) l r) (Kl:(fn.name== "runtime.NumGoroutine")=false:=by kernel_rfl) (hn:Nat.ble args.length fn.ntmps=true:=by exact rfl):bI P fi args l r ee:=
  bI.intro hf hb Kl (Nat.le_of_ble_eq_true hn) h
theorem ZR {X:Act→World→Prop} (h:GQ K Q .ret ρ l r):GQ K (Exit.then X Q) .ret ρ l r:=h
theorem ZB {X:Nat} (h:GQ K Q .ret ρ l r):GQ K (Exit.inBlock X Q) .ret ρ l r:=h
end
abbrev YS (i:Nat) (p:Pl):Pl:=.st i false p
abbrev YE (i:Nat) (p q:Pl):Pl:=.ef i p q
abbrev YF (i:Nat) (p:Pl):Pl:=.ef i p .stop
abbrev dy:=Option (TypeId × Nat)
abbrev Va (x:Nat):Value:=.int .u8 ((x:Nat):Int)
abbrev Vb (x:Nat):Value:=.int .u16 ((x:Nat):Int)
abbrev Vc (x:Nat):Value:=.int .u32 ((x:Nat):Int)
abbrev Vd (x:Nat):Value:=.int .u64 ((x:Nat):Int)
abbrev Ve (x:Nat):Value:=.int .i8 ((x:Nat):Int)
abbrev Vf (x:Nat):Value:=.int .i16 ((x:Nat):Int)
abbrev Vg (x:Nat):Value:=.int .i32 ((x:Nat):Int)
abbrev Vh (x:Nat):Value:=.int .i64 ((x:Nat):Int)
abbrev Vp (b o:Nat):Value:=.pointer (some ⟨b,o,none⟩)
abbrev Vs (b o n c:Nat):Value:=.slice (some ⟨b,o,none⟩) n c
section
variable {P:Program} {ρ:ba} {o:Oper} {x y:Operand} {ty cT:TypeId}
theorem aS (m n:Nat) (ho:o.op=.binOp .add ty x y cT:=by exact rfl) (hx:ev ρ x=some (.int .u8 (m:Nat)):=by exact rfl) (hy:ev ρ y=some (.int .u8 (n:Nat)):=by exact rfl) (h:m+n≤255:=by omega):bB P ρ o (.int .u8 ((m+n:Nat):Int)):=QN ho hx hy h
theorem dF (m n:Nat) (ho:o.op=.binOp .add ty x y cT:=by exact rfl) (hx:ev ρ x=some (.int .u16 (m:Nat)):=by exact rfl) (hy:ev ρ y=some (.int .u16 (n:Nat)):=by exact rfl) (h:m+n≤65535:=by omega):bB P ρ o (.int .u16 ((m+n:Nat):Int)):=JX ho hx hy h
theorem bR (m n:Nat) (ho:o.op=.binOp .add ty x y cT:=by exact rfl) (hx:ev ρ x=some (.int .u32 (m:Nat)):=by exact rfl) (hy:ev ρ y=some (.int .u32 (n:Nat)):=by exact rfl) (h:m+n≤4294967295:=by omega):bB P ρ o (.int .u32 ((m+n:Nat):Int)):=J3 ho hx hy h
theorem fq (m n:Nat) (ho:o.op=.binOp .add ty x y cT:=by exact rfl) (hx:ev ρ x=some (.int .u64 (m:Nat)):=by exact rfl) (hy:ev ρ y=some (.int .u64 (n:Nat)):=by exact rfl) (h:m+n≤18446744073709551615:=by omega):bB P ρ o (.int .u64 ((m+n:Nat):Int)):=Kc ho hx hy h
theorem gm (m n:Nat) (ho:o.op=.binOp .add ty x y cT:=by exact rfl) (hx:ev ρ x=some (.int .i16 (m:Nat)):=by exact rfl) (hy:ev ρ y=some (.int .i16 (n:Nat)):=by exact rfl) (h:m+n≤32767:=by omega):bB P ρ o (.int .i16 ((m+n:Nat):Int)):=JF ho hx hy h
theorem Xk (m n:Nat) (ho:o.op=.binOp .add ty x y cT:=by exact rfl) (hx:ev ρ x=some (.int .i32 (m:Nat)):=by exact rfl) (hy:ev ρ y=some (.int .i32 (n:Nat)):=by exact rfl) (h:m+n≤2147483647:=by omega):bB P ρ o (.int .i32 ((m+n:Nat):Int)):=JK ho hx hy h
theorem aF (m n:Nat) (ho:o.op=.binOp .add ty x y cT:=by exact rfl) (hx:ev ρ x=some (.int .i64 (m:Nat)):=by exact rfl) (hy:ev ρ y=some (.int .i64 (n:Nat)):=by exact rfl) (h:m+n≤9223372036854775807:=by omega):bB P ρ o (.int .i64 ((m+n:Nat):Int)):=JQ ho hx hy h
theorem jr (m n:Nat) (ho:o.op=.binOp .add ty x y cT:=by exact rfl) (hx:ev ρ x=some (.int .u8 (m:Nat)):=by exact rfl) (hy:ev ρ y=some (.int .u8 (n:Nat)):=by exact rfl):bB P ρ o (.int .u8 (((m+n)%256:Nat):Int)):=QU ho hx hy
theorem dG (m n:Nat) (ho:o.op=.binOp .and ty x y cT:=by exact rfl) (hx:ev ρ x=some (.int .u8 (m:Nat)):=by exact rfl) (hy:ev ρ y=some (.int .u8 (n:Nat)):=by exact rfl) (h:m<256∨n<256:=by omega) (hm:m<256:=by omega) (hn:n<256:=by omega):bB P ρ o (.int .u8 ((m&&&n:Nat):Int)):=QQ ho hx hy h hm hn
theorem iL (m n:Nat) (ho:o.op=.binOp .and ty x y cT:=by exact rfl) (hx:ev ρ x=some (.int .u16 (m:Nat)):=by exact rfl) (hy:ev ρ y=some (.int .u16 (n:Nat)):=by exact rfl) (h:m<65536∨n<65536:=by omega) (hm:m<65536:=by omega) (hn:n<65536:=by omega):bB P ρ o (.int .u16 ((m&&&n:Nat):Int)):=JZ ho hx hy h hm hn
theorem gX (m n:Nat) (ho:o.op=.binOp .and ty x y cT:=by exact rfl) (hx:ev ρ x=some (.int .u32 (m:Nat)):=by exact rfl) (hy:ev ρ y=some (.int .u32 (n:Nat)):=by exact rfl) (h:m<4294967296∨n<4294967296:=by omega) (hm:m<4294967296:=by omega) (hn:n<4294967296:=by omega):bB P ρ o (.int .u32 ((m&&&n:Nat):Int)):=J6 ho hx hy h hm hn
theorem gF (m n:Nat) (ho:o.op=.binOp .and ty x y cT:=by exact rfl) (hx:ev ρ x=some (.int .u64 (m:Nat)):=by exact rfl) (hy:ev ρ y=some (.int .u64 (n:Nat)):=by exact rfl) (h:m<18446744073709551616∨n<18446744073709551616:=by omega) (hm:m<18446744073709551616:=by omega) (hn:n<18446744073709551616:=by omega):bB P ρ o (.int .u64 ((m&&&n:Nat):Int)):=Kg ho hx hy h hm hn
theorem BK (m n:Nat) (ho:o.op=.binOp .and ty x y cT:=by exact rfl) (hx:ev ρ x=some (.int .i64 (m:Nat)):=by exact rfl) (hy:ev ρ y=some (.int .i64 (n:Nat)):=by exact rfl) (h:m<9223372036854775808∨n<9223372036854775808:=by omega) (hm:m<18446744073709551616:=by omega) (hn:n<18446744073709551616:=by omega):bB P ρ o (.int .i64 ((m&&&n:Nat):Int)):=JT ho hx hy h hm hn
theorem Ix (m n:Nat) (ho:o.op=.binOp .andNot ty x y cT:=by exact rfl) (hx:ev ρ x=some (.int .u64 (m:Nat)):=by exact rfl) (hy:ev ρ y=some (.int .u64 (n:Nat)):=by exact rfl) (hm:m<18446744073709551616:=by omega) (hn:n<18446744073709551616:=by omega):bB P ρ o (.int .u64 ((m&&&(18446744073709551615-n):Nat):Int)):=Ct ho hx hy hm hn
theorem aI (m:Nat) {s t:TypeId} {D:TypeDesc} {k:IntKind} (hs:P.underlying s=some D) (ht:P.underlying t=some (.int .u8)) (ho:o.op=.convert s t x:=by exact rfl) (hx:ev ρ x=some (.int k (m:Nat)):=by exact rfl) (h:m≤255:=by omega):bB P ρ o (.int .u8 ((m:Nat):Int)):=VD ho hs ht hx h
theorem mP (m:Nat) {s t:TypeId} {D:TypeDesc} {k:IntKind} (hs:P.underlying s=some D) (ht:P.underlying t=some (.int .u16)) (ho:o.op=.convert s t x:=by exact rfl) (hx:ev ρ x=some (.int k (m:Nat)):=by exact rfl) (h:m≤65535:=by omega):bB P ρ o (.int .u16 ((m:Nat):Int)):=QY ho hs ht hx h
theorem dz (m:Nat) {s t:TypeId} {D:TypeDesc} {k:IntKind} (hs:P.underlying s=some D) (ht:P.underlying t=some (.int .u32)) (ho:o.op=.convert s t x:=by exact rfl) (hx:ev ρ x=some (.int k (m:Nat)):=by exact rfl) (h:m≤4294967295:=by omega):bB P ρ o (.int .u32 ((m:Nat):Int)):=Q1 ho hs ht hx h
theorem cW (m:Nat) {s t:TypeId} {D:TypeDesc} {k:IntKind} (hs:P.underlying s=some D) (ht:P.underlying t=some (.int .u64)) (ho:o.op=.convert s t x:=by exact rfl) (hx:ev ρ x=some (.int k (m:Nat)):=by exact rfl) (h:m≤18446744073709551615:=by omega):bB P ρ o (.int .u64 ((m:Nat):Int)):=Q3 ho hs ht hx h
theorem Hr (m:Nat) {s t:TypeId} {D:TypeDesc} {k:IntKind} (hs:P.underlying s=some D) (ht:P.underlying t=some (.int .i8)) (ho:o.op=.convert s t x:=by exact rfl) (hx:ev ρ x=some (.int k (m:Nat)):=by exact rfl) (h:m≤127:=by omega):bB P ρ o (.int .i8 ((m:Nat):Int)):=VC ho hs ht hx h
theorem v8 (m:Nat) {s t:TypeId} {D:TypeDesc} {k:IntKind} (hs:P.underlying s=some D) (ht:P.underlying t=some (.int .i16)) (ho:o.op=.convert s t x:=by exact rfl) (hx:ev ρ x=some (.int k (m:Nat)):=by exact rfl) (h:m≤32767:=by omega):bB P ρ o (.int .i16 ((m:Nat):Int)):=QI ho hs ht hx h
theorem Mb (m:Nat) {s t:TypeId} {D:TypeDesc} {k:IntKind} (hs:P.underlying s=some D) (ht:P.underlying t=some (.int .i32)) (ho:o.op=.convert s t x:=by exact rfl) (hx:ev ρ x=some (.int k (m:Nat)):=by exact rfl) (h:m≤2147483647:=by omega):bB P ρ o (.int .i32 ((m:Nat):Int)):=QJ ho hs ht hx h
theorem iG (m:Nat) {s t:TypeId} {D:TypeDesc} {k:IntKind} (hs:P.underlying s=some D) (ht:P.underlying t=some (.int .i64)) (ho:o.op=.convert s t x:=by exact rfl) (hx:ev ρ x=some (.int k (m:Nat)):=by exact rfl) (h:m≤9223372036854775807:=by omega):bB P ρ o (.int .i64 ((m:Nat):Int)):=QL ho hs ht hx h
theorem bg (m:Nat) {s t:TypeId} {D:TypeDesc} {k:IntKind} (hs:P.underlying s=some D) (ht:P.underlying t=some (.int .u8)) (ho:o.op=.convert s t x:=by exact rfl) (hx:ev ρ x=some (.int k (m:Nat)):=by exact rfl):bB P ρ o (.int .u8 ((m%256:Nat):Int)):=VE ho hs ht hx
theorem Hs (m:Nat) {s t:TypeId} {D:TypeDesc} {k:IntKind} (hs:P.underlying s=some D) (ht:P.underlying t=some (.int .u16)) (ho:o.op=.convert s t x:=by exact rfl) (hx:ev ρ x=some (.int k (m:Nat)):=by exact rfl):bB P ρ o (.int .u16 ((m%65536:Nat):Int)):=QZ ho hs ht hx
theorem aep (m:Nat) {s t:TypeId} {D:TypeDesc} {k:IntKind} (hs:P.underlying s=some D) (ht:P.underlying t=some (.int .u32)) (ho:o.op=.convert s t x:=by exact rfl) (hx:ev ρ x=some (.int k (m:Nat)):=by exact rfl):bB P ρ o (.int .u32 ((m%4294967296:Nat):Int)):=Q2 ho hs ht hx
theorem yt (m n:Nat) (ho:o.op=.binOp .mul ty x y cT:=by exact rfl) (hx:ev ρ x=some (.int .u8 (m:Nat)):=by exact rfl) (hy:ev ρ y=some (.int .u8 (n:Nat)):=by exact rfl) (h:m*n≤255:=by omega):bB P ρ o (.int .u8 ((m*n:Nat):Int)):=QO ho hx hy h
theorem FB (m n:Nat) (ho:o.op=.binOp .mul ty x y cT:=by exact rfl) (hx:ev ρ x=some (.int .u32 (m:Nat)):=by exact rfl) (hy:ev ρ y=some (.int .u32 (n:Nat)):=by exact rfl) (h:m*n≤4294967295:=by omega):bB P ρ o (.int .u32 ((m*n:Nat):Int)):=J4 ho hx hy h
theorem sJ (m n:Nat) (ho:o.op=.binOp .mul ty x y cT:=by exact rfl) (hx:ev ρ x=some (.int .u64 (m:Nat)):=by exact rfl) (hy:ev ρ y=some (.int .u64 (n:Nat)):=by exact rfl) (h:m*n≤18446744073709551615:=by omega):bB P ρ o (.int .u64 ((m*n:Nat):Int)):=Ke ho hx hy h
theorem Xl (m n:Nat) (ho:o.op=.binOp .mul ty x y cT:=by exact rfl) (hx:ev ρ x=some (.int .i16 (m:Nat)):=by exact rfl) (hy:ev ρ y=some (.int .i16 (n:Nat)):=by exact rfl) (h:m*n≤32767:=by omega):bB P ρ o (.int .i16 ((m*n:Nat):Int)):=JG ho hx hy h
theorem Mc (m n:Nat) (ho:o.op=.binOp .mul ty x y cT:=by exact rfl) (hx:ev ρ x=some (.int .i32 (m:Nat)):=by exact rfl) (hy:ev ρ y=some (.int .i32 (n:Nat)):=by exact rfl) (h:m*n≤2147483647:=by omega):bB P ρ o (.int .i32 ((m*n:Nat):Int)):=JL ho hx hy h
theorem pk (m n:Nat) (ho:o.op=.binOp .mul ty x y cT:=by exact rfl) (hx:ev ρ x=some (.int .i64 (m:Nat)):=by exact rfl) (hy:ev ρ y=some (.int .i64 (n:Nat)):=by exact rfl) (h:m*n≤9223372036854775807:=by omega):bB P ρ o (.int .i64 ((m*n:Nat):Int)):=JR ho hx hy h
theorem Xm (m n:Nat) (ho:o.op=.binOp .mul ty x y cT:=by exact rfl) (hx:ev ρ x=some (.int .u32 (m:Nat)):=by exact rfl) (hy:ev ρ y=some (.int .u32 (n:Nat)):=by exact rfl):bB P ρ o (.int .u32 (((m*n)%4294967296:Nat):Int)):=J' ho hx hy
theorem v9 (m n:Nat) (ho:o.op=.binOp .or ty x y cT:=by exact rfl) (hx:ev ρ x=some (.int .u8 (m:Nat)):=by exact rfl) (hy:ev ρ y=some (.int .u8 (n:Nat)):=by exact rfl) (hm:m<256:=by omega) (hn:n<256:=by omega):bB P ρ o (.int .u8 ((m|||n:Nat):Int)):=AT ho hx hy hm hn
theorem aeq (m n:Nat) (ho:o.op=.binOp .or ty x y cT:=by exact rfl) (hx:ev ρ x=some (.int .u16 (m:Nat)):=by exact rfl) (hy:ev ρ y=some (.int .u16 (n:Nat)):=by exact rfl) (hm:m<65536:=by omega) (hn:n<65536:=by omega):bB P ρ o (.int .u16 ((m|||n:Nat):Int)):=QX ho hx hy hm hn
theorem yu (m n:Nat) (ho:o.op=.binOp .or ty x y cT:=by exact rfl) (hx:ev ρ x=some (.int .u32 (m:Nat)):=by exact rfl) (hy:ev ρ y=some (.int .u32 (n:Nat)):=by exact rfl) (hm:m<4294967296:=by omega) (hn:n<4294967296:=by omega):bB P ρ o (.int .u32 ((m|||n:Nat):Int)):=lX ho hx hy hm hn
theorem iH (m n:Nat) (ho:o.op=.binOp .or ty x y cT:=by exact rfl) (hx:ev ρ x=some (.int .u64 (m:Nat)):=by exact rfl) (hy:ev ρ y=some (.int .u64 (n:Nat)):=by exact rfl) (hm:m<18446744073709551616:=by omega) (hn:n<18446744073709551616:=by omega):bB P ρ o (.int .u64 ((m|||n:Nat):Int)):=oQ ho hx hy hm hn
theorem aer (m n:Nat) (ho:o.op=.binOp .or ty x y cT:=by exact rfl) (hx:ev ρ x=some (.int .i64 (m:Nat)):=by exact rfl) (hy:ev ρ y=some (.int .i64 (n:Nat)):=by exact rfl) (hm:m<9223372036854775808:=by omega) (hn:n<9223372036854775808:=by omega):bB P ρ o (.int .i64 ((m|||n:Nat):Int)):=QK ho hx hy hm hn
theorem Md (m n:Nat) (ho:o.op=.binOp .quo ty x y cT:=by exact rfl) (hx:ev ρ x=some (.int .u8 (m:Nat)):=by exact rfl) (hy:ev ρ y=some (.int .u8 (n:Nat)):=by exact rfl) (h0:0<n:=by omega) (hm:m≤255:=by omega):bB P ρ o (.int .u8 ((m/n:Nat):Int)):=QT ho hx hy h0 hm
theorem Me (m n:Nat) (ho:o.op=.binOp .quo ty x y cT:=by exact rfl) (hx:ev ρ x=some (.int .u32 (m:Nat)):=by exact rfl) (hy:ev ρ y=some (.int .u32 (n:Nat)):=by exact rfl) (h0:0<n:=by omega) (hm:m≤4294967295:=by omega):bB P ρ o (.int .u32 ((m/n:Nat):Int)):=J9 ho hx hy h0 hm
theorem FC (m n:Nat) (ho:o.op=.binOp .quo ty x y cT:=by exact rfl) (hx:ev ρ x=some (.int .u64 (m:Nat)):=by exact rfl) (hy:ev ρ y=some (.int .u64 (n:Nat)):=by exact rfl) (h0:0<n:=by omega) (hm:m≤18446744073709551615:=by omega):bB P ρ o (.int .u64 ((m/n:Nat):Int)):=Kj ho hx hy h0 hm
theorem FD (m n:Nat) (ho:o.op=.binOp .quo ty x y cT:=by exact rfl) (hx:ev ρ x=some (.int .i64 (m:Nat)):=by exact rfl) (hy:ev ρ y=some (.int .i64 (n:Nat)):=by exact rfl) (h0:0<n:=by omega) (hm:m≤9223372036854775807:=by omega):bB P ρ o (.int .i64 ((m/n:Nat):Int)):=JW ho hx hy h0 hm
theorem pn (m n:Nat) {k':IntKind} (ho:o.op=.binOp .shl ty x y cT:=by exact rfl) (hx:ev ρ x=some (.int .u8 (m:Nat)):=by exact rfl) (hy:ev ρ y=some (.int k' (n:Nat)):=by exact rfl) (hn:n≤8:=by omega) (h:m*2^n≤255:=by omega):bB P ρ o (.int .u8 ((m*2^n:Nat):Int)):=QS ho hx hy hn h
theorem Mf (m n:Nat) {k':IntKind} (ho:o.op=.binOp .shl ty x y cT:=by exact rfl) (hx:ev ρ x=some (.int .u16 (m:Nat)):=by exact rfl) (hy:ev ρ y=some (.int k' (n:Nat)):=by exact rfl) (hn:n≤16:=by omega) (h:m*2^n≤65535:=by omega):bB P ρ o (.int .u16 ((m*2^n:Nat):Int)):=J1 ho hx hy hn h
theorem BL (m n:Nat) {k':IntKind} (ho:o.op=.binOp .shl ty x y cT:=by exact rfl) (hx:ev ρ x=some (.int .u32 (m:Nat)):=by exact rfl) (hy:ev ρ y=some (.int k' (n:Nat)):=by exact rfl) (hn:n≤32:=by omega) (h:m*2^n≤4294967295:=by omega):bB P ρ o (.int .u32 ((m*2^n:Nat):Int)):=J8 ho hx hy hn h
theorem po (m n:Nat) {k':IntKind} (ho:o.op=.binOp .shl ty x y cT:=by exact rfl) (hx:ev ρ x=some (.int .u64 (m:Nat)):=by exact rfl) (hy:ev ρ y=some (.int k' (n:Nat)):=by exact rfl) (hn:n≤64:=by omega) (h:m*2^n≤18446744073709551615:=by omega):bB P ρ o (.int .u64 ((m*2^n:Nat):Int)):=Ki ho hx hy hn h
theorem FE (m n:Nat) {k':IntKind} (ho:o.op=.binOp .shl ty x y cT:=by exact rfl) (hx:ev ρ x=some (.int .i16 (m:Nat)):=by exact rfl) (hy:ev ρ y=some (.int k' (n:Nat)):=by exact rfl) (hn:n≤16:=by omega) (h:m*2^n≤32767:=by omega):bB P ρ o (.int .i16 ((m*2^n:Nat):Int)):=JJ ho hx hy hn h
theorem FF (m n:Nat) {k':IntKind} (ho:o.op=.binOp .shl ty x y cT:=by exact rfl) (hx:ev ρ x=some (.int .i32 (m:Nat)):=by exact rfl) (hy:ev ρ y=some (.int k' (n:Nat)):=by exact rfl) (hn:n≤32:=by omega) (h:m*2^n≤2147483647:=by omega):bB P ρ o (.int .i32 ((m*2^n:Nat):Int)):=JO ho hx hy hn h
theorem sK (m n:Nat) {k':IntKind} (ho:o.op=.binOp .shl ty x y cT:=by exact rfl) (hx:ev ρ x=some (.int .i64 (m:Nat)):=by exact rfl) (hy:ev ρ y=some (.int k' (n:Nat)):=by exact rfl) (hn:n≤64:=by omega) (h:m*2^n≤9223372036854775807:=by omega):bB P ρ o (.int .i64 ((m*2^n:Nat):Int)):=JV ho hx hy hn h
theorem FG (m n:Nat) {k':IntKind} (ho:o.op=.binOp .shl ty x y cT:=by exact rfl) (hx:ev ρ x=some (.int .u8 (m:Nat)):=by exact rfl) (hy:ev ρ y=some (.int k' (n:Nat)):=by exact rfl):bB P ρ o (.int .u8 ((m*2^n%256:Nat):Int)):=QW ho hx hy
theorem FH (m n:Nat) {k':IntKind} (ho:o.op=.binOp .shl ty x y cT:=by exact rfl) (hx:ev ρ x=some (.int .u16 (m:Nat)):=by exact rfl) (hy:ev ρ y=some (.int k' (n:Nat)):=by exact rfl):bB P ρ o (.int .u16 ((m*2^n%65536:Nat):Int)):=J2 ho hx hy
theorem eV (m n:Nat) {k':IntKind} (ho:o.op=.binOp .shl ty x y cT:=by exact rfl) (hx:ev ρ x=some (.int .u32 (m:Nat)):=by exact rfl) (hy:ev ρ y=some (.int k' (n:Nat)):=by exact rfl):bB P ρ o (.int .u32 ((m*2^n%4294967296:Nat):Int)):=Kb ho hx hy
theorem eI (m n:Nat) {k':IntKind} (ho:o.op=.binOp .shl ty x y cT:=by exact rfl) (hx:ev ρ x=some (.int .u64 (m:Nat)):=by exact rfl) (hy:ev ρ y=some (.int k' (n:Nat)):=by exact rfl):bB P ρ o (.int .u64 ((m*2^n%18446744073709551616:Nat):Int)):=Kk ho hx hy
theorem yv (m n:Nat) {k':IntKind} (ho:o.op=.binOp .shr ty x y cT:=by exact rfl) (hx:ev ρ x=some (.int .u8 (m:Nat)):=by exact rfl) (hy:ev ρ y=some (.int k' (n:Nat)):=by exact rfl) (h:m<256:=by omega):bB P ρ o (.int .u8 ((m/2^n:Nat):Int)):=QR ho hx hy h
theorem bM (m n:Nat) {k':IntKind} (ho:o.op=.binOp .shr ty x y cT:=by exact rfl) (hx:ev ρ x=some (.int .u16 (m:Nat)):=by exact rfl) (hy:ev ρ y=some (.int k' (n:Nat)):=by exact rfl) (h:m<65536:=by omega):bB P ρ o (.int .u16 ((m/2^n:Nat):Int)):=J0 ho hx hy h
theorem eJ (m n:Nat) {k':IntKind} (ho:o.op=.binOp .shr ty x y cT:=by exact rfl) (hx:ev ρ x=some (.int .u32 (m:Nat)):=by exact rfl) (hy:ev ρ y=some (.int k' (n:Nat)):=by exact rfl) (h:m<4294967296:=by omega):bB P ρ o (.int .u32 ((m/2^n:Nat):Int)):=J7 ho hx hy h
theorem aQ (m n:Nat) {k':IntKind} (ho:o.op=.binOp .shr ty x y cT:=by exact rfl) (hx:ev ρ x=some (.int .u64 (m:Nat)):=by exact rfl) (hy:ev ρ y=some (.int k' (n:Nat)):=by exact rfl) (h:m<18446744073709551616:=by omega):bB P ρ o (.int .u64 ((m/2^n:Nat):Int)):=Kh ho hx hy h
theorem Mg (m n:Nat) {k':IntKind} (ho:o.op=.binOp .shr ty x y cT:=by exact rfl) (hx:ev ρ x=some (.int .i16 (m:Nat)):=by exact rfl) (hy:ev ρ y=some (.int k' (n:Nat)):=by exact rfl) (h:m<65536:=by omega):bB P ρ o (.int .i16 ((m/2^n:Nat):Int)):=JI ho hx hy h
theorem FI (m n:Nat) {k':IntKind} (ho:o.op=.binOp .shr ty x y cT:=by exact rfl) (hx:ev ρ x=some (.int .i32 (m:Nat)):=by exact rfl) (hy:ev ρ y=some (.int k' (n:Nat)):=by exact rfl) (h:m<4294967296:=by omega):bB P ρ o (.int .i32 ((m/2^n:Nat):Int)):=JN ho hx hy h
theorem sL (m n:Nat) {k':IntKind} (ho:o.op=.binOp .shr ty x y cT:=by exact rfl) (hx:ev ρ x=some (.int .i64 (m:Nat)):=by exact rfl) (hy:ev ρ y=some (.int k' (n:Nat)):=by exact rfl) (h:m<18446744073709551616:=by omega):bB P ρ o (.int .i64 ((m/2^n:Nat):Int)):=JU ho hx hy h
theorem aR (m n:Nat) (ho:o.op=.binOp .sub ty x y cT:=by exact rfl) (hx:ev ρ x=some (.int .u8 (m:Nat)):=by exact rfl) (hy:ev ρ y=some (.int .u8 (n:Nat)):=by exact rfl) (h:n≤m∧m≤255:=by omega):bB P ρ o (.int .u8 ((m-n:Nat):Int)):=QP ho hx hy h
theorem mQ (m n:Nat) (ho:o.op=.binOp .sub ty x y cT:=by exact rfl) (hx:ev ρ x=some (.int .u16 (m:Nat)):=by exact rfl) (hy:ev ρ y=some (.int .u16 (n:Nat)):=by exact rfl) (h:n≤m∧m≤65535:=by omega):bB P ρ o (.int .u16 ((m-n:Nat):Int)):=JY ho hx hy h
theorem ff (m n:Nat) (ho:o.op=.binOp .sub ty x y cT:=by exact rfl) (hx:ev ρ x=some (.int .u32 (m:Nat)):=by exact rfl) (hy:ev ρ y=some (.int .u32 (n:Nat)):=by exact rfl) (h:n≤m∧m≤4294967295:=by omega):bB P ρ o (.int .u32 ((m-n:Nat):Int)):=J5 ho hx hy h
theorem cS (m n:Nat) (ho:o.op=.binOp .sub ty x y cT:=by exact rfl) (hx:ev ρ x=some (.int .u64 (m:Nat)):=by exact rfl) (hy:ev ρ y=some (.int .u64 (n:Nat)):=by exact rfl) (h:n≤m∧m≤18446744073709551615:=by omega):bB P ρ o (.int .u64 ((m-n:Nat):Int)):=Kf ho hx hy h
theorem Mh (m n:Nat) (ho:o.op=.binOp .sub ty x y cT:=by exact rfl) (hx:ev ρ x=some (.int .i8 (m:Nat)):=by exact rfl) (hy:ev ρ y=some (.int .i8 (n:Nat)):=by exact rfl) (h:n≤m∧m≤127:=by omega):bB P ρ o (.int .i8 ((m-n:Nat):Int)):=QH ho hx hy h
theorem sM (m n:Nat) (ho:o.op=.binOp .sub ty x y cT:=by exact rfl) (hx:ev ρ x=some (.int .i16 (m:Nat)):=by exact rfl) (hy:ev ρ y=some (.int .i16 (n:Nat)):=by exact rfl) (h:n≤m∧m≤32767:=by omega):bB P ρ o (.int .i16 ((m-n:Nat):Int)):=JH ho hx hy h
theorem vA (m n:Nat) (ho:o.op=.binOp .sub ty x y cT:=by exact rfl) (hx:ev ρ x=some (.int .i32 (m:Nat)):=by exact rfl) (hy:ev ρ y=some (.int .i32 (n:Nat)):=by exact rfl) (h:n≤m∧m≤2147483647:=by omega):bB P ρ o (.int .i32 ((m-n:Nat):Int)):=JM ho hx hy h
theorem cw (m n:Nat) (ho:o.op=.binOp .sub ty x y cT:=by exact rfl) (hx:ev ρ x=some (.int .i64 (m:Nat)):=by exact rfl) (hy:ev ρ y=some (.int .i64 (n:Nat)):=by exact rfl) (h:n≤m∧m≤9223372036854775807:=by omega):bB P ρ o (.int .i64 ((m-n:Nat):Int)):=JS ho hx hy h
theorem Mi (m n:Nat) (ho:o.op=.binOp .sub ty x y cT:=by exact rfl) (hx:ev ρ x=some (.int .u8 (m:Nat)):=by exact rfl) (hy:ev ρ y=some (.int .u8 (n:Nat)):=by exact rfl) (h:n≤256:=by omega):bB P ρ o (.int .u8 (((m+256-n)%256:Nat):Int)):=QV ho hx hy h
theorem Mj (m n:Nat) (ho:o.op=.binOp .sub ty x y cT:=by exact rfl) (hx:ev ρ x=some (.int .u32 (m:Nat)):=by exact rfl) (hy:ev ρ y=some (.int .u32 (n:Nat)):=by exact rfl) (h:n≤4294967296:=by omega):bB P ρ o (.int .u32 (((m+4294967296-n)%4294967296:Nat):Int)):=Ka ho hx hy h
end
abbrev e_4:Nat × Kd:=(4,.e)
abbrev e_5:Nat × Kd:=(5,.e)
abbrev Uh:Nat × Kd:=(6,.e)
abbrev e_7:Nat × Kd:=(7,.e)
abbrev e_8:Nat × Kd:=(8,.e)
abbrev mu:Nat × Kd:=(9,.e)
abbrev FJ:Nat × Kd:=(10,.e)
abbrev Iy:Nat × Kd:=(11,.e)
abbrev FK:Nat × Kd:=(12,.e)
abbrev FL:Nat × Kd:=(13,.e)
abbrev aes:Nat × Kd:=(14,.e)
abbrev Iz:Nat × Kd:=(15,.e)
abbrev Mk:Nat × Kd:=(16,.e)
abbrev Ml:Nat × Kd:=(18,.e)
abbrev al7:Nat × Kd:=(20,.e)
abbrev Xn:Nat × Kd:=(21,.e)
abbrev al8:Nat × Kd:=(24,.e)
abbrev al9:Nat × Kd:=(25,.e)
abbrev ama:Nat × Kd:=(26,.e)
abbrev FM:Nat × Kd:=(0,.r)
abbrev r_1:Nat × Kd:=(1,.r)
abbrev r_2:Nat × Kd:=(2,.r)
abbrev jN:Nat × Kd:=(3,.r)
abbrev kJ:Nat × Kd:=(4,.r)
abbrev El:Nat × Kd:=(5,.r)
abbrev xm:Nat × Kd:=(6,.r)
abbrev BM:Nat × Kd:=(7,.r)
abbrev sN:Nat × Kd:=(8,.r)
abbrev Dw:Nat × Kd:=(9,.r)
abbrev wH:Nat × Kd:=(10,.r)
abbrev Dx:Nat × Kd:=(11,.r)
abbrev Mm:Nat × Kd:=(12,.r)
abbrev Xo:Nat × Kd:=(13,.r)
abbrev Mn:Nat × Kd:=(14,.r)
abbrev R8:Nat × Kd:=(15,.r)
abbrev aet:Nat × Kd:=(16,.r)
abbrev IA:Nat × Kd:=(17,.r)
abbrev Mo:Nat × Kd:=(18,.r)
abbrev aeu:Nat × Kd:=(19,.r)
abbrev aev:Nat × Kd:=(23,.r)
abbrev amb:Nat × Kd:=(24,.r)
abbrev amc:Nat × Kd:=(30,.r)
abbrev amd:Nat × Kd:=(36,.r)
abbrev ame:Nat × Kd:=(42,.r)
abbrev dq:Nat × Kd:=(0,.y)
abbrev c6:Nat × Kd:=(1,.y)
abbrev c8:Nat × Kd:=(2,.y)
abbrev ft:Nat × Kd:=(3,.y)
abbrev fz:Nat × Kd:=(4,.y)
abbrev dD:Nat × Kd:=(5,.y)
abbrev dZ:Nat × Kd:=(6,.y)
abbrev dR:Nat × Kd:=(7,.y)
abbrev eM:Nat × Kd:=(8,.y)
abbrev ia:Nat × Kd:=(9,.y)
abbrev eX:Nat × Kd:=(10,.y)
abbrev gG:Nat × Kd:=(11,.y)
abbrev iM:Nat × Kd:=(12,.y)
abbrev jj:Nat × Kd:=(13,.y)
abbrev jL:Nat × Kd:=(14,.y)
abbrev mR:Nat × Kd:=(15,.y)
abbrev rn:Nat × Kd:=(16,.y)
abbrev wI:Nat × Kd:=(17,.y)
abbrev FN:Nat × Kd:=(18,.y)
abbrev yw:Nat × Kd:=(19,.y)
abbrev yx:Nat × Kd:=(20,.y)
abbrev Dy:Nat × Kd:=(21,.y)
abbrev BN:Nat × Kd:=(22,.y)
abbrev R9:Nat × Kd:=(23,.y)
abbrev R':Nat × Kd:=(24,.y)
abbrev Sa:Nat × Kd:=(25,.y)
abbrev Xp:Nat × Kd:=(26,.y)
abbrev Xq:Nat × Kd:=(27,.y)
abbrev amf:Nat × Kd:=(28,.y)
abbrev amg:Nat × Kd:=(29,.y)
abbrev amh:Nat × Kd:=(31,.y)
abbrev ami:Nat × Kd:=(32,.y)
abbrev amj:Nat × Kd:=(33,.y)
abbrev amk:Nat × Kd:=(34,.y)
abbrev aml:Nat × Kd:=(35,.y)
abbrev amm:Nat × Kd:=(37,.y)
abbrev amn:Nat × Kd:=(38,.y)
abbrev amo:Nat × Kd:=(39,.y)
abbrev amp:Nat × Kd:=(40,.y)
abbrev amq:Nat × Kd:=(41,.y)
abbrev amr:Nat × Kd:=(43,.y)
abbrev ams:Nat × Kd:=(44,.y)
abbrev amt:Nat × Kd:=(45,.y)
abbrev amu:Nat × Kd:=(46,.y)
section
variable {K:Kx} {Q:Exit→Act→World→Prop} {ρ:ba} {l r:List aU} {id:Nat} {L:List Oper}
theorem Zg (E:Nat) (order:List (Nat × Kd)) (h:GP Tryz.prog K Q L order ρ l r) (hB:Gv L E order=true:=by kernel_rfl) (hQ:∀c a w (d:Nat) v,Q (.panic c) (a.put (some d) v) w→Q (.panic c) a w:=by exact fun _ _ _ _ _ h=>h):G Tryz.prog K Q (.region id L.toArray true) ρ l r:=G.alC E order mo hB hQ h
theorem Zh (E:Nat) (pl:Pl) (h:GT Tryz.prog K Q L pl ρ l r) (hB:GC L E pl=true:=by kernel_rfl) (hQ:∀c a w (d:Nat) v,Q (.panic c) (a.put (some d) v) w→Q (.panic c) a w:=by exact fun _ _ _ _ _ h=>h):G Tryz.prog K Q (.region id L.toArray true) ρ l r:=G.tree E pl mo hB hQ h
end
end Go.Proofs.YtekcchgffhphbaaGreatDoor
namespace Go.Proofs.YtekcchgffhphbaaGreatDoor
open Go Tryz
theorem Mp:fieldOff0 prog 71 21 71=some 279:=by kernel_rfl
end Go.Proofs.YtekcchgffhphbaaGreatDoor
