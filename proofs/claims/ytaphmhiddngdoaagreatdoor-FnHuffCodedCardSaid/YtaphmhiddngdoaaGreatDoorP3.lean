/- Closed facts on the program's types, and short names for the walk's steps. -/
import Derived.Test.YtaphmhiddngdoaaGreatDoorProg
import Derived.Test.YtaphmhiddngdoaaGreatDoorP1
set_option maxRecDepth 100000
set_option linter.unusedVariables false
set_option linter.unusedSimpArgs false
namespace Go.Proofs.YtaphmhiddngdoaaGreatDoor
open Tryz
theorem mo:prog.follows .mixedOrders=true:=by kernel_rfl
theorem eW:dJ prog 100=some (16,1):=by kernel_rfl
theorem jY:dJ prog 101=some (4,16):=by kernel_rfl
theorem Ep:dJ prog 131=some (12,1):=by kernel_rfl
theorem rF:dJ prog 140=some (2,1):=by kernel_rfl
theorem Er:dJ prog 154=some (4,256):=by kernel_rfl
theorem Es:dJ prog 164=some (12,1):=by kernel_rfl
theorem Et:dJ prog 165=some (16,1):=by kernel_rfl
theorem ll:dJ prog 189=some (32,2):=by kernel_rfl
theorem ec:dJ prog 193=some (13,1):=by kernel_rfl
theorem VQ:dJ prog 194=some (8,1):=by kernel_rfl
theorem jZ:dJ prog 195=some (257,1):=by kernel_rfl
theorem VR:dJ prog 209=some (32,1):=by kernel_rfl
theorem Lg:dJ prog 53=some (256,1):=by kernel_rfl
theorem tj:dJ prog 55=some (256,1):=by kernel_rfl
theorem c7:dJ prog 68=some (256,1):=by kernel_rfl
theorem gX:dJ prog 84=some (256,1):=by kernel_rfl
theorem VS:fm prog 104=some true:=by kernel_rfl
theorem cg:fm prog 106=some true:=by kernel_rfl
theorem AM:fm prog 108=some false:=by kernel_rfl
theorem VT:fm prog 127=some true:=by kernel_rfl
theorem VU:fm prog 138=some true:=by kernel_rfl
theorem Eu:fm prog 140=some true:=by kernel_rfl
theorem ln:fm prog 158=some false:=by kernel_rfl
theorem om:fm prog 178=some true:=by kernel_rfl
theorem mR:fm prog 179=some false:=by kernel_rfl
theorem Ev:fm prog 185=some true:=by kernel_rfl
theorem jd:fm prog 197=some true:=by kernel_rfl
theorem xq:fm prog 198=some false:=by kernel_rfl
theorem Lh:fm prog 21=some false:=by kernel_rfl
theorem aF:fm prog 23=some false:=by kernel_rfl
theorem cF:fm prog 26=some false:=by kernel_rfl
theorem du:fm prog 3=some false:=by kernel_rfl
theorem mH:fm prog 30=some false:=by kernel_rfl
theorem xr:fm prog 4=some false:=by kernel_rfl
theorem vf:fm prog 40=some false:=by kernel_rfl
theorem aB:fm prog 5=some false:=by kernel_rfl
theorem Li:fm prog 55=some true:=by kernel_rfl
theorem ay:fm prog 57=some false:=by kernel_rfl
theorem l7:fm prog 59=some false:=by kernel_rfl
theorem lu:fm prog 60=some false:=by kernel_rfl
theorem adL:fm prog 62=some true:=by kernel_rfl
theorem vg:fm prog 63=some false:=by kernel_rfl
theorem pN:fm prog 65=some false:=by kernel_rfl
theorem de:fm prog 82=some false:=by kernel_rfl
theorem j0:fm prog 83=some false:=by kernel_rfl
theorem kU:fm prog 86=some true:=by kernel_rfl
theorem bY:fm prog 87=some false:=by kernel_rfl
theorem qS:fm prog 92=some false:=by kernel_rfl
theorem Gg:fm prog 93=some false:=by kernel_rfl
theorem iO:fm prog 96=some false:=by kernel_rfl
theorem Lj:fe prog 124=some (127,[.int .i64 ((0:Nat):Int),.int .i64 ((0:Nat):Int),.int .i64 ((0:Nat):Int)],3,24):=by kernel_rfl
theorem Tm:fe prog 22=some (26,[.int .u32 ((0:Nat):Int)],1,4):=by kernel_rfl
theorem ak:fe prog 23=some (5,[.int .u8 ((0:Nat):Int)],1,1):=by kernel_rfl
theorem j4:fe prog 30=some (3,[.int .i64 ((0:Nat):Int)],1,8):=by kernel_rfl
theorem Tn:fe prog 58=some (104,[.int .u16 ((0:Nat):Int),.int .u8 ((0:Nat):Int)],2,4):=by kernel_rfl
theorem To:fe prog 59=some (104,[.int .u16 ((0:Nat):Int),.int .u8 ((0:Nat):Int)],2,4):=by kernel_rfl
theorem adM:fe prog 60=some (106,[.int .u16 ((0:Nat):Int)],1,2):=by kernel_rfl
theorem Tp:fe prog 63=some (158,[.int .u64 ((0:Nat):Int)],1,8):=by kernel_rfl
theorem adN:fe prog 78=some (138,[.int .i64 ((0:Nat):Int),.int .i64 ((0:Nat):Int),.int .i64 ((0:Nat):Int)],3,24):=by kernel_rfl
theorem Tq:fe prog 92=some (57,[.int .u16 ((0:Nat):Int)],1,2):=by kernel_rfl
theorem adO:fe prog 93=some (197,[.int .i32 ((0:Nat):Int),.int .u32 ((0:Nat):Int)],2,8):=by kernel_rfl
theorem adP:fe prog 96=some (178,[.int .u16 ((0:Nat):Int),.int .u8 ((0:Nat):Int),.int .u8 ((0:Nat):Int)],3,4):=by kernel_rfl
theorem Lk:fieldOff prog 104 0=some 0:=by kernel_rfl
theorem pO:fieldOff prog 104 1=some 1:=by kernel_rfl
theorem ar:fieldOff prog 106 0=some 0:=by kernel_rfl
theorem nu:fieldOff prog 110 0=some 0:=by kernel_rfl
theorem iP:fieldOff prog 110 1=some 1:=by kernel_rfl
theorem tk:fieldOff prog 110 2=some 2:=by kernel_rfl
theorem nw:fieldOff prog 112 0=some 0:=by kernel_rfl
theorem eN:fieldOff prog 112 1=some 1:=by kernel_rfl
theorem ik:fieldOff prog 112 2=some 2:=by kernel_rfl
theorem eO:fieldOff prog 112 3=some 3:=by kernel_rfl
theorem Ll:fieldOff prog 127 0=some 0:=by kernel_rfl
theorem Lm:fieldOff prog 127 1=some 1:=by kernel_rfl
theorem Ln:fieldOff prog 127 2=some 2:=by kernel_rfl
theorem Lo:fieldOff prog 136 0=some 0:=by kernel_rfl
theorem tl:fieldOff prog 136 1=some 1:=by kernel_rfl
theorem pP:fieldOff prog 136 2=some 2:=by kernel_rfl
theorem kV:fieldOff prog 136 3=some 3:=by kernel_rfl
theorem Cj:fieldOff prog 138 0=some 0:=by kernel_rfl
theorem Lp:fieldOff prog 138 1=some 1:=by kernel_rfl
theorem Lq:fieldOff prog 138 2=some 2:=by kernel_rfl
theorem Lr:fieldOff prog 144 0=some 0:=by kernel_rfl
theorem pQ:fieldOff prog 144 1=some 1:=by kernel_rfl
theorem kW:fieldOff prog 148 0=some 0:=by kernel_rfl
theorem cy:fieldOff prog 148 1=some 1:=by kernel_rfl
theorem a7:fieldOff prog 148 2=some 2:=by kernel_rfl
theorem c8:fieldOff prog 148 3=some 3:=by kernel_rfl
theorem gu:fieldOff prog 178 0=some 0:=by kernel_rfl
theorem gv:fieldOff prog 178 1=some 1:=by kernel_rfl
theorem gY:fieldOff prog 178 2=some 2:=by kernel_rfl
theorem gd:fieldOff prog 182 0=some 0:=by kernel_rfl
theorem im:fieldOff prog 182 1=some 1:=by kernel_rfl
theorem pR:fieldOff prog 182 2=some 2:=by kernel_rfl
theorem l8:fieldOff prog 188 0=some 0:=by kernel_rfl
theorem tm:fieldOff prog 188 1=some 1:=by kernel_rfl
theorem l9:fieldOff prog 197 0=some 0:=by kernel_rfl
theorem kX:fieldOff prog 197 1=some 1:=by kernel_rfl
theorem ny:fieldOff prog 200 0=some 0:=by kernel_rfl
theorem tq:fieldOff prog 200 1=some 1:=by kernel_rfl
theorem iQ:fieldOff prog 200 2=some 2:=by kernel_rfl
theorem lI:fieldOff prog 62 0=some 0:=by kernel_rfl
theorem qh:fieldOff prog 70 0=some 0:=by kernel_rfl
theorem ek:fieldOff prog 70 1=some 256:=by kernel_rfl
theorem dN:fieldOff prog 70 10=some 265:=by kernel_rfl
theorem Ck:fieldOff prog 70 11=some 266:=by kernel_rfl
theorem xt:fieldOff prog 70 12=some 267:=by kernel_rfl
theorem dx:fieldOff prog 70 13=some 268:=by kernel_rfl
theorem xu:fieldOff prog 70 14=some 269:=by kernel_rfl
theorem iR:fieldOff prog 70 15=some 270:=by kernel_rfl
theorem ma:fieldOff prog 70 16=some 271:=by kernel_rfl
theorem ts:fieldOff prog 70 17=some 272:=by kernel_rfl
theorem gw:fieldOff prog 70 18=some 273:=by kernel_rfl
theorem Gh:fieldOff prog 70 2=some 257:=by kernel_rfl
theorem gx:fieldOff prog 70 20=some 278:=by kernel_rfl
theorem mf:fieldOff prog 70 22=some 279:=by kernel_rfl
theorem Gi:fieldOff prog 70 3=some 258:=by kernel_rfl
theorem vO:fieldOff prog 70 4=some 259:=by kernel_rfl
theorem tu:fieldOff prog 70 5=some 260:=by kernel_rfl
theorem vP:fieldOff prog 70 6=some 261:=by kernel_rfl
theorem lJ:fieldOff prog 70 7=some 262:=by kernel_rfl
theorem mI:fieldOff prog 86 0=some 0:=by kernel_rfl
theorem gm:fieldOff prog 86 1=some 1:=by kernel_rfl
theorem qj:fieldOff prog 89 0=some 0:=by kernel_rfl
theorem fO:fieldOff prog 89 1=some 1:=by kernel_rfl
theorem lK:fieldOff prog 89 2=some 2:=by kernel_rfl
theorem eJ:fieldOff prog 89 3=some 3:=by kernel_rfl
theorem cc:fieldOff prog 91 0=some 0:=by kernel_rfl
theorem cJ:fieldOff prog 91 1=some 1:=by kernel_rfl
theorem fv:fieldOff prog 91 2=some 2:=by kernel_rfl
theorem kL:fieldOff prog 95 0=some 0:=by kernel_rfl
theorem j5:fieldOff prog 95 1=some 1:=by kernel_rfl
theorem qk:fieldOff prog 95 2=some 2:=by kernel_rfl
theorem tv:fieldOff prog 98 0=some 0:=by kernel_rfl
theorem dV:fieldOff prog 98 1=some 256:=by kernel_rfl
theorem dO:fieldOff prog 98 10=some 528:=by kernel_rfl
theorem cE:fieldOff prog 98 11=some 529:=by kernel_rfl
theorem mg:fieldOff prog 98 12=some 530:=by kernel_rfl
theorem tx:fieldOff prog 98 13=some 531:=by kernel_rfl
theorem tA:fieldOff prog 98 14=some 532:=by kernel_rfl
theorem mj:fieldOff prog 98 15=some 533:=by kernel_rfl
theorem kM:fieldOff prog 98 2=some 512:=by kernel_rfl
theorem Ra:fieldOff prog 98 3=some 514:=by kernel_rfl
theorem kN:fieldOff prog 98 4=some 518:=by kernel_rfl
theorem dq:fieldOff prog 98 5=some 521:=by kernel_rfl
theorem gN:fieldOff prog 98 6=some 524:=by kernel_rfl
theorem vQ:fieldOff prog 98 7=some 525:=by kernel_rfl
theorem ax:fieldOff prog 98 8=some 526:=by kernel_rfl
theorem eK:fieldOff prog 98 9=some 527:=by kernel_rfl
theorem VV:cx prog 124=some 3:=by kernel_rfl
theorem xv:cx prog 176=some 1:=by kernel_rfl
theorem j6:cx prog 22=some 1:=by kernel_rfl
theorem aE:cx prog 23=some 1:=by kernel_rfl
theorem j7:cx prog 30=some 1:=by kernel_rfl
theorem oI:cx prog 59=some 2:=by kernel_rfl
theorem cM:cx prog 60=some 1:=by kernel_rfl
theorem cN:cx prog 63=some 1:=by kernel_rfl
theorem Gj:cx prog 78=some 3:=by kernel_rfl
theorem oJ:cx prog 92=some 1:=by kernel_rfl
theorem gG:cx prog 93=some 2:=by kernel_rfl
theorem j8:cx prog 96=some 3:=by kernel_rfl
theorem Ls:iV prog 104=some [(0,1),(1,1)]:=by kernel_rfl
theorem VW:iV prog 106=some [(0,1)]:=by kernel_rfl
theorem VX:iV prog 110=some [(0,1),(1,1),(2,1)]:=by kernel_rfl
theorem VY:iV prog 127=some [(0,1),(1,1),(2,1)]:=by kernel_rfl
theorem VZ:iV prog 130=some [(0,1)]:=by kernel_rfl
theorem V1:iV prog 136=some [(0,1),(1,1),(2,1),(3,1)]:=by kernel_rfl
theorem Lt:iV prog 138=some [(0,1),(1,1),(2,1)]:=by kernel_rfl
theorem V2:iV prog 144=some [(0,1),(1,1)]:=by kernel_rfl
theorem Ts:iV prog 70=some [(0,256),(256,1),(257,1),(258,1),(259,1),(260,1),(261,1),(262,1),(263,1),(264,1),(265,1),(266,1),(267,1),(268,1),(269,1),(270,1),(271,1),(272,1),(273,1),(274,4),(278,1),(279,0),(279,256)]:=by kernel_rfl
theorem Tt:iV prog 98=some [(0,256),(256,256),(512,2),(514,4),(518,3),(521,3),(524,1),(525,1),(526,1),(527,1),(528,1),(529,1),(530,1),(531,1),(532,1),(533,1)]:=by kernel_rfl
theorem AN:cL prog 104=some 2:=by kernel_rfl
theorem aC:cL prog 106=some 1:=by kernel_rfl
theorem Lu:cL prog 127=some 3:=by kernel_rfl
theorem AO:cL prog 138=some 3:=by kernel_rfl
theorem rG:cL prog 140=some 2:=by kernel_rfl
theorem mS:cL prog 158=some 1:=by kernel_rfl
theorem ic:cL prog 178=some 3:=by kernel_rfl
theorem V3:cL prog 179=some 1:=by kernel_rfl
theorem Ew:cL prog 185=some 0:=by kernel_rfl
theorem je:cL prog 197=some 2:=by kernel_rfl
theorem V4:cL prog 198=some 1:=by kernel_rfl
theorem Gk:cL prog 21=some 1:=by kernel_rfl
theorem aQ:cL prog 23=some 1:=by kernel_rfl
theorem eZ:cL prog 26=some 1:=by kernel_rfl
theorem lL:cL prog 3=some 1:=by kernel_rfl
theorem Lv:cL prog 30=some 1:=by kernel_rfl
theorem Cl:cL prog 4=some 1:=by kernel_rfl
theorem aZ:cL prog 5=some 1:=by kernel_rfl
theorem Gl:cL prog 55=some 256:=by kernel_rfl
theorem fj:cL prog 57=some 1:=by kernel_rfl
theorem Gm:cL prog 59=some 1:=by kernel_rfl
theorem adQ:cL prog 60=some 1:=by kernel_rfl
theorem adR:cL prog 62=some 1:=by kernel_rfl
theorem Cm:cL prog 63=some 1:=by kernel_rfl
theorem Tu:cL prog 65=some 1:=by kernel_rfl
theorem kY:cL prog 82=some 1:=by kernel_rfl
theorem jr:cL prog 83=some 1:=by kernel_rfl
theorem kZ:cL prog 86=some 2:=by kernel_rfl
theorem fk:cL prog 87=some 1:=by kernel_rfl
theorem Cn:cL prog 92=some 1:=by kernel_rfl
theorem Tv:cL prog 93=some 1:=by kernel_rfl
theorem Lw:cL prog 96=some 1:=by kernel_rfl
theorem Ex:prog.underlying 115=some (.pointer 154):=by kernel_rfl
theorem V5:prog.underlying 124=some (.slice 127):=by kernel_rfl
theorem Lx:prog.underlying 128=some (.pointer 130):=by kernel_rfl
theorem AP:prog.underlying 156=some (.int .i8):=by kernel_rfl
theorem oo:prog.underlying 158=some (.int .u64):=by kernel_rfl
theorem xw:prog.underlying 176=some (.slice 83):=by kernel_rfl
theorem V6:prog.underlying 190=some (.slice 188):=by kernel_rfl
theorem oK:prog.underlying 21=some (.int .i32):=by kernel_rfl
theorem oL:prog.underlying 22=some (.slice 26):=by kernel_rfl
theorem aJ:prog.underlying 23=some (.slice 5):=by kernel_rfl
theorem aK:prog.underlying 26=some (.int .u32):=by kernel_rfl
theorem dz:prog.underlying 3=some (.int .i64):=by kernel_rfl
theorem kp:prog.underlying 30=some (.slice 3):=by kernel_rfl
theorem Gn:prog.underlying 38=some (.pointer 70):=by kernel_rfl
theorem gH:prog.underlying 40=some (.interface #[("Error",210)]):=by kernel_rfl
theorem av:prog.underlying 5=some (.int .u8):=by kernel_rfl
theorem Tw:prog.underlying 55=some (.array 256 26):=by kernel_rfl
theorem aD:prog.underlying 57=some (.int .u16):=by kernel_rfl
theorem vh:prog.underlying 59=some (.slice 104):=by kernel_rfl
theorem Co:prog.underlying 60=some (.slice 106):=by kernel_rfl
theorem Gp:prog.underlying 63=some (.slice 158):=by kernel_rfl
theorem Cp:prog.underlying 65=some (.pointer 98):=by kernel_rfl
theorem adS:prog.underlying 72=some (.pointer 55):=by kernel_rfl
theorem adT:prog.underlying 78=some (.slice 138):=by kernel_rfl
theorem k7:prog.underlying 82=some (.int .u64):=by kernel_rfl
theorem gZ:prog.underlying 83=some (.int .i16):=by kernel_rfl
theorem bE:prog.underlying 87=some (.int .u64):=by kernel_rfl
theorem Rb:prog.underlying 9=some (.string):=by kernel_rfl
theorem Tx:prog.underlying 92=some (.slice 57):=by kernel_rfl
theorem adU:prog.underlying 93=some (.slice 197):=by kernel_rfl
theorem Ty:prog.underlying 96=some (.slice 178):=by kernel_rfl
theorem V7:eL prog 100=some ((ae .u32 (List.replicate 16 0))):=by kernel_rfl
theorem V8:eL prog 101=some ((ae .u32 (List.replicate 64 0))):=by kernel_rfl
theorem Ey:eL prog 104=some ([.int .u16 ((0:Nat):Int),.int .u8 ((0:Nat):Int)]):=by kernel_rfl
theorem fw:eL prog 106=some ([.int .u16 ((0:Nat):Int)]):=by kernel_rfl
theorem V':eL prog 110=some ([.slice none 0 0,.int .u8 ((0:Nat):Int),(Value.pointer none)]):=by kernel_rfl
theorem Wa:eL prog 112=some ([.slice none 0 0,.int .u64 ((0:Nat):Int),.int .u64 ((0:Nat):Int),.int .u8 ((0:Nat):Int)]):=by kernel_rfl
theorem Ly:eL prog 127=some ([.int .i64 ((0:Nat):Int),.int .i64 ((0:Nat):Int),.int .i64 ((0:Nat):Int)]):=by kernel_rfl
theorem Wb:eL prog 130=some ([(.string ⟨#[]⟩)]):=by kernel_rfl
theorem Wc:eL prog 131=some ((ae .u8 (List.replicate 12 0))):=by kernel_rfl
theorem Wd:eL prog 136=some ([.slice none 0 0,.int .i64 ((0:Nat):Int),.bool false,.slice none 0 0]):=by kernel_rfl
theorem Ez:eL prog 138=some ([.int .i64 ((0:Nat):Int),.int .i64 ((0:Nat):Int),.int .i64 ((0:Nat):Int)]):=by kernel_rfl
theorem AQ:eL prog 140=some ([.int .i64 ((0:Nat):Int),.int .i64 ((0:Nat):Int)]):=by kernel_rfl
theorem We:eL prog 144=some ([.slice none 0 0,.int .i64 ((0:Nat):Int)]):=by kernel_rfl
theorem LA:eL prog 148=some ([.slice none 0 0,.int .u64 ((0:Nat):Int),.int .u64 ((0:Nat):Int),.int .u8 ((0:Nat):Int)]):=by kernel_rfl
theorem Wf:eL prog 154=some ((ae .u8 (List.replicate 1024 0))):=by kernel_rfl
theorem EA:eL prog 158=some ([.int .u64 ((0:Nat):Int)]):=by kernel_rfl
theorem Wg:eL prog 164=some ((ae .u16 (List.replicate 12 0))):=by kernel_rfl
theorem Wh:eL prog 165=some ((ae .u16 (List.replicate 16 0))):=by kernel_rfl
theorem pS:eL prog 178=some ([.int .u16 ((0:Nat):Int),.int .u8 ((0:Nat):Int),.int .u8 ((0:Nat):Int)]):=by kernel_rfl
theorem LB:eL prog 182=some ([.int .u16 ((0:Nat):Int),(Value.pointer none),.slice none 0 0]):=by kernel_rfl
theorem Wi:eL prog 189=some ([.int .u32 ((0:Nat):Int),.int .u32 ((0:Nat):Int),.int .u32 ((0:Nat):Int),.int .u32 ((0:Nat):Int),.int .u32 ((0:Nat):Int),.int .u32 ((0:Nat):Int),.int .u32 ((0:Nat):Int),.int .u32 ((0:Nat):Int),.int .u32 ((0:Nat):Int),.int .u32 ((0:Nat):Int),.int .u32 ((0:Nat):Int),.int .u32 ((0:Nat):Int),.int .u32 ((0:Nat):Int),.int .u32 ((0:Nat):Int),.int .u32 ((0:Nat):Int),.int .u32 ((0:Nat):Int),.int .u32 ((0:Nat):Int),.int .u32 ((0:Nat):Int),.int .u32 ((0:Nat):Int),.int .u32 ((0:Nat):Int),.int .u32 ((0:Nat):Int),.int .u32 ((0:Nat):Int),.int .u32 ((0:Nat):Int),.int .u32 ((0:Nat):Int),.int .u32 ((0:Nat):Int),.int .u32 ((0:Nat):Int),.int .u32 ((0:Nat):Int),.int .u32 ((0:Nat):Int),.int .u32 ((0:Nat):Int),.int .u32 ((0:Nat):Int),.int .u32 ((0:Nat):Int),.int .u32 ((0:Nat):Int),.int .u32 ((0:Nat):Int),.int .u32 ((0:Nat):Int),.int .u32 ((0:Nat):Int),.int .u32 ((0:Nat):Int),.int .u32 ((0:Nat):Int),.int .u32 ((0:Nat):Int),.int .u32 ((0:Nat):Int),.int .u32 ((0:Nat):Int),.int .u32 ((0:Nat):Int),.int .u32 ((0:Nat):Int),.int .u32 ((0:Nat):Int),.int .u32 ((0:Nat):Int),.int .u32 ((0:Nat):Int),.int .u32 ((0:Nat):Int),.int .u32 ((0:Nat):Int),.int .u32 ((0:Nat):Int),.int .u32 ((0:Nat):Int),.int .u32 ((0:Nat):Int),.int .u32 ((0:Nat):Int),.int .u32 ((0:Nat):Int),.int .u32 ((0:Nat):Int),.int .u32 ((0:Nat):Int),.int .u32 ((0:Nat):Int),.int .u32 ((0:Nat):Int),.int .u32 ((0:Nat):Int),.int .u32 ((0:Nat):Int),.int .u32 ((0:Nat):Int),.int .u32 ((0:Nat):Int),.int .u32 ((0:Nat):Int),.int .u32 ((0:Nat):Int),.int .u32 ((0:Nat):Int),.int .u32 ((0:Nat):Int)]):=by kernel_rfl
theorem Wj:eL prog 193=some ((ae .u32 (List.replicate 13 0))):=by kernel_rfl
theorem Wk:eL prog 195=some ((ae .i16 (List.replicate 257 0))):=by kernel_rfl
theorem LC:eL prog 200=some ([(Value.pointer none),.slice none 0 0,.int .u16 ((0:Nat):Int)]):=by kernel_rfl
theorem adV:eL prog 53=some ((List.replicate 256 (.slice none 0 0))):=by kernel_rfl
theorem adW:eL prog 55=some ((ae .u32 (List.replicate 256 0))):=by kernel_rfl
theorem Tz:eL prog 70=some ((ae .u32 (List.replicate 256 0))++[.slice none 0 0,.slice none 0 0,.slice none 0 0,.int .i64 ((0:Nat):Int),.int .i64 ((0:Nat):Int),.int .u8 ((0:Nat):Int),.int .u8 ((0:Nat):Int),.int .u8 ((0:Nat):Int),.int .u8 ((0:Nat):Int),.int .u16 ((0:Nat):Int),.int .i64 ((0:Nat):Int),.bool false,.int .u8 ((0:Nat):Int),.int .u8 ((0:Nat):Int),.slice none 0 0,.slice none 0 0,.slice none 0 0,.slice none 0 0,.slice none 0 0,.slice none 0 0,.slice none 0 0,.slice none 0 0,(Value.pointer none)]++(ae .u8 (List.replicate 256 0))):=by kernel_rfl
theorem TA:eL prog 98=some ((ae .u32 (List.replicate 256 0))++(ae .i16 (List.replicate 256 0))++[.slice none 0 0,.int .i64 ((0:Nat):Int),.slice none 0 0,.int .u64 ((0:Nat):Int),.int .u64 ((0:Nat):Int),.int .u8 ((0:Nat):Int),.int .u64 ((0:Nat):Int),.int .u8 ((0:Nat):Int),.slice none 0 0,.slice none 0 0,.slice none 0 0,.slice none 0 0,.slice none 0 0,.int .i64 ((0:Nat):Int),.slice none 0 0,.int .i64 ((0:Nat):Int),.int .u16 ((0:Nat):Int),.int .u8 ((0:Nat):Int),.bool false,.bool false,.int .u8 ((0:Nat):Int),.int .u8 ((0:Nat):Int)]):=by kernel_rfl
end Go.Proofs.YtaphmhiddngdoaaGreatDoor
namespace Go.Proofs.YtaphmhiddngdoaaGreatDoor
open Go
def opV (ρ:bx):Op→Option Value
  | .move x=>ev ρ x
  | .assign x=>ev ρ x
  | .nilCheck x=>match ev ρ x with
    |some (.pointer (some p))=>some (.pointer (some p))
    |_=>none
  | .extract x i=>match ev ρ x with
    |some (.tuple vs)=>vs[i]?
    |_=>none
  | .pick c x y=>match ev ρ c with
    |some (.bool true)=>ev ρ x
    |some (.bool false)=>ev ρ y
    |_=>none
  |_=>none
theorem Wl {P:Program} {ρ:bx} {o:Oper} {v:Value} (h:opV ρ o.op=some v):bJ P ρ o v:=by
  cases ho:o.op with
  |move x=>rw[ho] at h;exact Dt ho h
  |assign x=>rw[ho] at h;exact lS ho h
  |nilCheck x=>
    rw[ho] at h;simp only[opV] at h;split at h
    · rename_i p hp;rw[←Option.some.inj h];exact aki ho hp
    · cases h
  |extract x i=>
    rw[ho] at h;simp only[opV] at h;split at h
    · rename_i vs hv;exact acS ho hv h
    · cases h
  |pick c x y=>
    rw[ho] at h;simp only[opV] at h;split at h
    · rename_i hc;exact PJ ho hc h
    · rename_i hc;exact PK ho hc h
    · cases h
  |_=>rw[ho] at h;simp[opV] at h
def EB (L:List Oper) (ρ:bx) (n:Nat) (o:Oper):Option Nat:=match want L ρ o with
  |some true=>match o.dst with
    |some d=>bif Nat.blt d n then some d else none
    |none=>none
  |_=>none
def zC (L:List Oper) (ρ:bx) (n:Nat) (o:Oper):Option (Nat × Value):=match o.dst with
  |some d=>match Nat.blt d n with
    |true=>match want L ρ o with
      |some true=>match opV ρ o.op with
        |some v=>some (d,v)
        |none=>none
      |some false=>some (d,undef)
      |none=>none
    |false=>none
  |none=>none
def LD (L:List Oper) (n:Nat):Nat→List Oper→bx→Option (List Oper × bx)
  |0,rest,ρ=>some (rest,ρ)
  |k+1,o::rest,ρ=>match zC L ρ n o with
    |some p=>LD L n k rest (p::ρ)
    |none=>none
  |_+1,[],_=>none
def j9 (i:Nat) (L:List Oper):Oper:=match nth i L with
  |some o=>o
  |none=>default
def yA (L:List Oper) (ρ:bx) (n i:Nat):Option Nat:=match nth i L with
  |some o=>EB L ρ n o
  |none=>none
def zD (L:List Oper) (ρ:bx) (n i:Nat):Option (Nat × Value):=match nth i L with
  |some o=>zC L ρ n o
  |none=>none
def EC (L:List Oper) (n:Nat):Nat→List (Nat × Kd)→bx→Option (List (Nat × Kd) × bx)
  |0,os,ρ=>some (os,ρ)
  |k+1,(i,.y)::os,ρ=>match zD L ρ n i with
    |some p=>EC L n k os (p::ρ)
    |none=>none
  |_+1,_,_=>none
def runT (L:List Oper) (n:Nat):Nat→Pl→bx→Option (Pl × bx)
  |0,os,ρ=>some (os,ρ)
  |k+1,.st i false os,ρ=>match zD L ρ n i with
    |some p=>runT L n k os (p::ρ)
    |none=>none
  |_+1,_,_=>none
def qK (L:List Oper) (n:Nat):List Oper→bx→Option (List Oper × bx)
  |[],ρ=>some ([],ρ)
  |o::rest,ρ=>match zC L ρ n o with
    |some p=>qK L n rest (p::ρ)
    |none=>some (o::rest,ρ)
def Wm (L:List Oper) (n:Nat) (o:Oper) (v:Value) (rest:List Oper) (ρ:bx):Option (List Oper × bx):=match EB L ρ n o with
  |some d=>qK L n rest ((d,v)::ρ)
  |none=>none
def Cq (L:List Oper) (n:Nat):List (Nat × Kd)→bx→Option (List (Nat × Kd) × bx)
  |[],ρ=>some ([],ρ)
  |(i,.y)::os,ρ=>match zD L ρ n i with
    |some p=>Cq L n os (p::ρ)
    |none=>some ((i,.y)::os,ρ)
  |(i,.r)::os,ρ=>some ((i,.r)::os,ρ)
  |(i,.e)::os,ρ=>some ((i,.e)::os,ρ)
def Gq (L:List Oper) (n i:Nat) (v:Value) (os:List (Nat × Kd)) (ρ:bx):Option (List (Nat × Kd) × bx):=match yA L ρ n i with
  |some d=>Cq L n os ((d,v)::ρ)
  |none=>none
def Cr (L:List Oper) (n:Nat):Pl→bx→Option (Pl × bx)
  | .st i false os,ρ=>match zD L ρ n i with
    |some p=>Cr L n os (p::ρ)
    |none=>some (.st i false os,ρ)
  | .st i true os,ρ=>some (.st i true os,ρ)
  | .nil,ρ=>some (.nil,ρ)
  | .stop,ρ=>some (.stop,ρ)
  | .ef i x y,ρ=>some (.ef i x y,ρ)
  | .er i x y,ρ=>some (.er i x y,ρ)
def xx (L:List Oper) (n i:Nat) (v:Value) (os:Pl) (ρ:bx):Option (Pl × bx):=match yA L ρ n i with
  |some d=>Cr L n os ((d,v)::ρ)
  |none=>none
theorem mJ {L:List Oper} {ρ:bx} {n d:Nat} {o:Oper} (h:EB L ρ n o=some d):want L ρ o=some true∧o.dst=some d∧Nat.blt d n=true:=by
  unfold EB at h;split at h
  · rename_i hw;split at h
    · rename_i d' hd;cases hb:Nat.blt d' n with
      |true=>rw[hb] at h;simp only[cond_true,Option.some.injEq] at h;subst h;exact⟨hw,hd,hb⟩
      |false=>rw[hb] at h;simp at h
    · cases h
  · cases h
theorem nE {P:Program} {L:List Oper} {ρ:bx} {n:Nat} {o:Oper} {p:Nat × Value} (h:zC L ρ n o=some p):o.dst=some p.1∧Nat.blt p.1 n=true∧((want L ρ o=some true∧bJ P ρ o p.2)∨(want L ρ o=some false∧p.2=undef)):=by
  unfold zC at h;split at h
  · rename_i d hd;split at h
    · rename_i hb;split at h
      · rename_i hw;split at h
        · rename_i v hv;rw[←Option.some.inj h];exact⟨hd,hb,.inl ⟨hw,Wl hv⟩⟩
        · cases h
      · rename_i hw;rw[←Option.some.inj h];exact⟨hd,hb,.inr ⟨hw,rfl⟩⟩
      · cases h
    · cases h
  · cases h
theorem vR {i:Nat} {L:List Oper} {o:Oper} (h:nth i L=some o):j9 i L=o:=by unfold j9;rw[h]
theorem tB {L:List Oper} {ρ:bx} {n d i:Nat} (h:yA L ρ n i=some d):nth i L=some (j9 i L)∧EB L ρ n (j9 i L)=some d:=by
  unfold yA at h;split at h
  · rename_i o ho;rw[vR ho];exact⟨ho,h⟩
  · cases h
theorem tC {L:List Oper} {ρ:bx} {n i:Nat} {p:Nat × Value} (h:zD L ρ n i=some p):nth i L=some (j9 i L)∧zC L ρ n (j9 i L)=some p:=by
  unfold zD at h;split at h
  · rename_i o ho;rw[vR ho];exact⟨ho,h⟩
  · cases h
theorem Sub.ofMap {ρ:bx}:∀{ρ':bx},ρ'.map (fun p=>look p.1 ρ)=ρ'.map (fun p=>some p.2)→Sub ρ' ρ
  |[],_=>trivial
  |p::q,h=>by
    rw[List.map_cons,List.map_cons] at h;exact⟨(List.cons.inj h).1,Sub.ofMap (List.cons.inj h).2⟩
section
variable {P:Program} {K:Kx} {Q:Exit→Act→World→Prop} {ρ ρ':bx} {l r:List aV} {L rest hY:List Oper} {o:Oper} {d i:Nat} {v:Value}
theorem Za (k:Nat) (g:GL P K Q L hY ρ' l r) (h:LD L K.n k rest ρ=some (hY,ρ'):=by exact rfl):GL P K Q L rest ρ l r:=by
  induction k generalizing rest ρ with
  |zero=>
    simp only[LD,Option.some.injEq,Prod.mk.injEq] at h;obtain⟨rfl,rfl⟩:=h;exact g
  |succ k ih=>
    cases rest with
    |nil=>simp[LD] at h
    |cons o rest=>
      simp only[LD] at h;split at h
      · rename_i p hp;obtain⟨h1,h2,h3⟩:=nE (P:=P) hp;have g':=ih h;rcases h3 with ⟨h4,h5⟩|⟨h4,h5⟩
        · exact GL.y h5 h4 h1 h2 g'
        · refine GL.skip h4 h1 h2 ?_;rw[←h5];exact g'
      · cases h
theorem Zr (h:rU P ρ l r o v) (g:GL P K Q L rest ((d,v)::ρ) l r) (hs:EB L ρ K.n o=some d:=by exact rfl):GL P K Q L (o::rest) ρ l r:=
  GL.rd h (mJ hs).1 (mJ hs).2.1 (mJ hs).2.2 g
theorem Zy (h:bJ P ρ o v) (g:GL P K Q L rest ((d,v)::ρ) l r) (hs:EB L ρ K.n o=some d:=by exact rfl):GL P K Q L (o::rest) ρ l r:=Zr h.O' g hs
theorem Zs {X:bx} {Y:List aV} (h:nN P K ρ l r o (fun ρ' l'=>ρ'=X∧l'=Y)) (g:GL P K Q L rest X Y r) (hw:want L ρ o=some true:=by exact rfl):GL P K Q L (o::rest) ρ l r:=
  GL.bV h hw fun _ _ ⟨h1,h2⟩=>by subst h1;subst h2;exact g
theorem Ze {X:Nat→bx} {Y:Nat→List aV} (h:nN P K ρ l r o (fun ρ' l'=>∃b,ρ'=X b∧l'=Y b)) (g:∀b,GL P K Q L rest (X b) (Y b) r) (hw:want L ρ o=some true:=by exact rfl):GL P K Q L (o::rest) ρ l r:=
  GL.bV h hw fun _ _ ⟨b,h1,h2⟩=>by subst h1;subst h2;exact g b
theorem Ya (g:GL P K Q L hY ρ' l r) (h:qK L K.n rest ρ=some (hY,ρ'):=by exact rfl):GL P K Q L rest ρ l r:=by
  induction rest generalizing ρ with
  |nil=>simp only[qK,Option.some.injEq,Prod.mk.injEq] at h;obtain⟨rfl,rfl⟩:=h;exact g
  |cons o rest ih=>
    simp only[qK] at h;split at h
    · rename_i p hp;obtain⟨h1,h2,h3⟩:=nE (P:=P) hp;have g':=ih h;rcases h3 with ⟨h4,h5⟩|⟨h4,h5⟩
      · exact GL.y h5 h4 h1 h2 g'
      · refine GL.skip h4 h1 h2 ?_;rw[←h5];exact g'
    · simp only[Option.some.injEq,Prod.mk.injEq] at h;obtain⟨rfl,rfl⟩:=h;exact g
theorem Yr (h:rU P ρ l r o v) (g:GL P K Q L hY ρ' l r) (hs:Wm L K.n o v rest ρ=some (hY,ρ'):=by exact rfl):GL P K Q L (o::rest) ρ l r:=by
  unfold Wm at hs;split at hs
  · rename_i d hd;exact Zr h (Ya g hs) hd
  · cases hs
theorem Yy (h:bJ P ρ o v) (g:GL P K Q L hY ρ' l r) (hs:Wm L K.n o v rest ρ=some (hY,ρ'):=by exact rfl):GL P K Q L (o::rest) ρ l r:=Yr h.O' g hs
theorem Ys {X:bx} {Y:List aV} (h:nN P K ρ l r o (fun ρ' l'=>ρ'=X∧l'=Y)) (g:GL P K Q L hY ρ' Y r) (hw:want L ρ o=some true:=by exact rfl) (hs:qK L K.n rest X=some (hY,ρ'):=by exact rfl):GL P K Q L (o::rest) ρ l r:=Zs h (Ya g hs) hw
variable {os Pp:List (Nat × Kd)}
theorem Wn (k:Nat) (g:GP P K Q L Pp ρ' l r) (h:EC L K.n k os ρ=some (Pp,ρ'):=by exact rfl):GP P K Q L os ρ l r:=by
  induction k generalizing os ρ with
  |zero=>
    simp only[EC,Option.some.injEq,Prod.mk.injEq] at h;obtain⟨rfl,rfl⟩:=h;exact g
  |succ k ih=>
    match os,h with
    |(i,.y)::os,h=>
      simp only[EC] at h;split at h
      · rename_i p hp;obtain⟨h0,IS⟩:=tC hp;obtain⟨h1,h2,h3⟩:=nE (P:=P) IS;have g':=ih h;rcases h3 with ⟨h4,h5⟩|⟨h4,h5⟩
        · exact GP.y h5 h0 h4 h1 h2 g'
        · refine GP.skip h0 h4 h1 h2 ?_;rw[←h5];exact g'
      · cases h
    |[],h=>simp[EC] at h
    |(i,.r)::os,h=>simp[EC] at h
    |(i,.e)::os,h=>simp[EC] at h
theorem Zpy (h:bJ P ρ (j9 i L) v) (g:GP P K Q L os ((d,v)::ρ) l r) (hs:yA L ρ K.n i=some d:=by exact rfl):GP P K Q L ((i,.y)::os) ρ l r:=by
  obtain⟨h0,h1⟩:=tB hs;obtain⟨h2,h3,h4⟩:=mJ h1;exact GP.y h h0 h2 h3 h4 g
theorem Zpr (h:rU P ρ l r (j9 i L) v) (g:GP P K Q L os ((d,v)::ρ) l r) (hs:yA L ρ K.n i=some d:=by exact rfl):GP P K Q L ((i,.r)::os) ρ l r:=by
  obtain⟨h0,h1⟩:=tB hs;obtain⟨h2,h3,h4⟩:=mJ h1;exact GP.rd h h0 h2 h3 h4 g
theorem cI (g:GP P K Q L Pp ρ' l r) (h:Cq L K.n os ρ=some (Pp,ρ'):=by exact rfl):GP P K Q L os ρ l r:=by
  induction os generalizing ρ with
  |nil=>simp only[Cq,Option.some.injEq,Prod.mk.injEq] at h;obtain⟨rfl,rfl⟩:=h;exact g
  |cons o os ih=>
    obtain⟨i,k⟩:=o;cases k with
    |y=>
      simp only[Cq] at h;split at h
      · rename_i p hp;obtain⟨h0,IS⟩:=tC hp;obtain⟨h1,h2,h3⟩:=nE (P:=P) IS;have g':=ih h;rcases h3 with ⟨h4,h5⟩|⟨h4,h5⟩
        · exact GP.y h5 h0 h4 h1 h2 g'
        · refine GP.skip h0 h4 h1 h2 ?_;rw[←h5];exact g'
      · simp only[Option.some.injEq,Prod.mk.injEq] at h;obtain⟨rfl,rfl⟩:=h;exact g
    |r=>simp only[Cq,Option.some.injEq,Prod.mk.injEq] at h;obtain⟨rfl,rfl⟩:=h;exact g
    |e=>simp only[Cq,Option.some.injEq,Prod.mk.injEq] at h;obtain⟨rfl,rfl⟩:=h;exact g
theorem ai (h:bJ P ρ (j9 i L) v) (g:GP P K Q L Pp ρ' l r) (hs:Gq L K.n i v os ρ=some (Pp,ρ'):=by exact rfl):GP P K Q L ((i,.y)::os) ρ l r:=by
  unfold Gq at hs;split at hs
  · rename_i d hd;exact Zpy h (cI g hs) hd
  · cases hs
theorem aW (h:rU P ρ l r (j9 i L) v) (g:GP P K Q L Pp ρ' l r) (hs:Gq L K.n i v os ρ=some (Pp,ρ'):=by exact rfl):GP P K Q L ((i,.r)::os) ρ l r:=by
  unfold Gq at hs;split at hs
  · rename_i d hd;exact Zpr h (cI g hs) hd
  · cases hs
def tD (L:List Oper) (ρ:bx) (i:Nat):Option Bool:=match nth i L with
  |some o=>want L ρ o
  |none=>none
theorem nF {L:List Oper} {ρ:bx} {i:Nat} {b:Bool} (h:tD L ρ i=some b):nth i L=some (j9 i L)∧want L ρ (j9 i L)=some b:=by
  unfold tD at h;split at h
  · rename_i o ho;rw[vR ho];exact⟨ho,h⟩
  · cases h
theorem Zps {X:bx} {Y:List aV} (h:nN P K ρ l r (j9 i L) (fun ρ' l'=>ρ'=X∧l'=Y)) (g:GP P K Q L os X Y r) (hw:tD L ρ i=some true:=by exact rfl):GP P K Q L ((i,.e)::os) ρ l r:=
  GP.bV h (nF hw).1 (nF hw).2 fun _ _ ⟨h1,h2⟩=>by subst h1;subst h2;exact g
theorem Zpe {X:Nat→bx} {Y:Nat→List aV} (h:nN P K ρ l r (j9 i L) (fun ρ' l'=>∃b,ρ'=X b∧l'=Y b)) (g:∀b,GP P K Q L os (X b) (Y b) r) (hw:tD L ρ i=some true:=by exact rfl):GP P K Q L ((i,.e)::os) ρ l r:=
  GP.bV h (nF hw).1 (nF hw).2 fun _ _ ⟨b,h1,h2⟩=>by subst h1;subst h2;exact g b
theorem jw {X:bx} {Y:List aV} (h:nN P K ρ l r (j9 i L) (fun ρ' l'=>ρ'=X∧l'=Y)) (g:GP P K Q L Pp ρ' Y r) (hw:tD L ρ i=some true:=by exact rfl) (hs:Cq L K.n os X=some (Pp,ρ'):=by exact rfl):GP P K Q L ((i,.e)::os) ρ l r:=Zps h (cI g hs) hw
variable {pl De alt:Pl}
theorem Zta (k:Nat) (g:GT P K Q L De ρ' l r) (h:runT L K.n k pl ρ=some (De,ρ'):=by exact rfl):GT P K Q L pl ρ l r:=by
  induction k generalizing pl ρ with
  |zero=>
    simp only[runT,Option.some.injEq,Prod.mk.injEq] at h;obtain⟨rfl,rfl⟩:=h;exact g
  |succ k ih=>
    match pl,h with
    | .st i false os,h=>
      simp only[runT] at h;split at h
      · rename_i p hp;obtain⟨h0,IS⟩:=tC hp;obtain⟨h1,h2,h3⟩:=nE (P:=P) IS;have g':=ih h;rcases h3 with ⟨h4,h5⟩|⟨h4,h5⟩
        · exact GT.y h5 h0 h4 h1 h2 g'
        · refine GT.skip h0 h4 h1 h2 ?_;rw[←h5];exact g'
      · cases h
    | .st i true os,h=>simp[runT] at h
    | .nil,h=>simp[runT] at h
    | .stop,h=>simp[runT] at h
    | .ef i a b,h=>simp[runT] at h
theorem Gr (h:bJ P ρ (j9 i L) v) (g:GT P K Q L pl ((d,v)::ρ) l r) (hs:yA L ρ K.n i=some d:=by exact rfl):GT P K Q L (.st i false pl) ρ l r:=by
  obtain⟨h0,h1⟩:=tB hs;obtain⟨h2,h3,h4⟩:=mJ h1;exact GT.y h h0 h2 h3 h4 g
theorem Ztr (h:rU P ρ l r (j9 i L) v) (g:GT P K Q L pl ((d,v)::ρ) l r) (hs:yA L ρ K.n i=some d:=by exact rfl):GT P K Q L (.st i true pl) ρ l r:=by
  obtain⟨h0,h1⟩:=tB hs;obtain⟨h2,h3,h4⟩:=mJ h1;exact GT.rd h h0 h2 h3 h4 g
theorem eQ (g:GT P K Q L De ρ' l r) (h:Cr L K.n pl ρ=some (De,ρ'):=by exact rfl):GT P K Q L pl ρ l r:=by
  induction pl generalizing ρ with
  |st i k os ih=>
    cases k with
    |false=>
      simp only[Cr] at h;split at h
      · rename_i p hp;obtain⟨h0,IS⟩:=tC hp;obtain⟨h1,h2,h3⟩:=nE (P:=P) IS;have g':=ih h;rcases h3 with ⟨h4,h5⟩|⟨h4,h5⟩
        · exact GT.y h5 h0 h4 h1 h2 g'
        · refine GT.skip h0 h4 h1 h2 ?_;rw[←h5];exact g'
      · simp only[Option.some.injEq,Prod.mk.injEq] at h;obtain⟨rfl,rfl⟩:=h;exact g
    |true=>simp only[Cr,Option.some.injEq,Prod.mk.injEq] at h;obtain⟨rfl,rfl⟩:=h;exact g
  |_=>simp only[Cr,Option.some.injEq,Prod.mk.injEq] at h;obtain⟨rfl,rfl⟩:=h;exact g
theorem ch (h:bJ P ρ (j9 i L) v) (g:GT P K Q L De ρ' l r) (hs:xx L K.n i v pl ρ=some (De,ρ'):=by exact rfl):GT P K Q L (.st i false pl) ρ l r:=by
  unfold xx at hs;split at hs
  · rename_i d hd;exact Gr h (eQ g hs) hd
  · cases hs
theorem vi (h:rU P ρ l r (j9 i L) v) (g:GT P K Q L De ρ' l r) (hs:xx L K.n i v pl ρ=some (De,ρ'):=by exact rfl):GT P K Q L (.st i true pl) ρ l r:=by
  unfold xx at hs;split at hs
  · rename_i d hd;exact Ztr h (eQ g hs) hd
  · cases hs
theorem Ztx (h:rU P ρ l r (j9 i L) v) (g:GT P K Q L pl ((d,v)::ρ) l r) (a:GT P K Q L alt ρ l r) (hs:yA L ρ K.n i=some d:=by exact rfl):GT P K Q L (.ef i pl alt) ρ l r:=by
  obtain⟨h0,h1⟩:=tB hs;obtain⟨h2,h3,h4⟩:=mJ h1;exact GT.erd h h0 h2 h3 h4 g a
theorem Zts {X:bx} {Y:List aV} (h:nN P K ρ l r (j9 i L) (fun ρ' l'=>ρ'=X∧l'=Y)) (g:GT P K Q L pl X Y r) (a:GT P K Q L alt ρ l r) (hw:tD L ρ i=some true:=by exact rfl):GT P K Q L (.ef i pl alt) ρ l r:=
  GT.bV h (nF hw).1 (nF hw).2 (fun _ _ ⟨h1,h2⟩=>by subst h1;subst h2;exact g) a
theorem iB (h:rU P ρ l r (j9 i L) v) (g:GT P K Q L De ρ' l r) (a:GT P K Q L alt ρ l r) (hs:xx L K.n i v pl ρ=some (De,ρ'):=by exact rfl):GT P K Q L (.ef i pl alt) ρ l r:=by
  unfold xx at hs;split at hs
  · rename_i d hd;exact Ztx h (eQ g hs) a hd
  · cases hs
theorem Yts {X:bx} {Y:List aV} (h:nN P K ρ l r (j9 i L) (fun ρ' l'=>ρ'=X∧l'=Y)) (g:GT P K Q L De ρ' Y r) (a:GT P K Q L alt ρ l r) (hw:tD L ρ i=some true:=by exact rfl) (hs:Cr L K.n pl X=some (De,ρ'):=by exact rfl):GT P K Q L (.ef i pl alt) ρ l r:=Zts h (eQ g hs) a hw
theorem kd (h:rU P ρ l r (j9 i L) v) (g:GT P K Q L De ρ' l r) (hs:xx L K.n i v pl ρ=some (De,ρ'):=by exact rfl):GT P K Q L (.ef i pl .stop) ρ l r:=iB h g GT.stop hs
theorem fz {X:bx} {Y:List aV} (h:nN P K ρ l r (j9 i L) (fun ρ' l'=>ρ'=X∧l'=Y)) (g:GT P K Q L De ρ' Y r) (hw:tD L ρ i=some true:=by exact rfl) (hs:Cr L K.n pl X=some (De,ρ'):=by exact rfl):GT P K Q L (.ef i pl .stop) ρ l r:=Yts h g GT.stop hw hs
theorem Xtu (h:rU P ρ l r (j9 i L) v) (g:GT P K Q L pl ((d,v)::ρ) l r) (hs:yA L ρ K.n i=some d:=by exact rfl):GT P K Q L (.ef i pl .stop) ρ l r:=Ztx h g GT.stop hs
theorem Xtt {X:bx} {Y:List aV} (h:nN P K ρ l r (j9 i L) (fun ρ' l'=>ρ'=X∧l'=Y)) (g:GT P K Q L pl X Y r) (hw:tD L ρ i=some true:=by exact rfl):GT P K Q L (.ef i pl .stop) ρ l r:=Zts h g GT.stop hw
end
section
variable {P:Program} {K:Kx} {Q:Exit→Act→World→Prop} {ρ ρ0:bx} {l r:List aV} {L:List Oper} {x y z:Code} {id:Nat}
theorem Zn (h:G P K Q y ρ l r):GL P K (Exit.then (y.wp P Q) Q) L [] ρ l r:=GL.nil (GQ.aa h)
theorem Zw1 {id:Nat} {L2:List Oper} (h:GL P K Q L2 L2 ρ l r):GL P K (Exit.then ((Code.region id L2.toArray false).wp P Q) Q) L [] ρ l r:=Zn (G.region h)
theorem Zw2 {id:Nat} {L2:List Oper} (h:GL P K (Exit.then (y.wp P Q) Q) L2 L2 ρ l r):GL P K (Exit.then ((Code.seq (.region id L2.toArray false) y).wp P Q) Q) L [] ρ l r:=Zn (G.seq (G.region h))
theorem Zw3 {id:Nat} {L2:List Oper} (h:GL P K (Exit.then (y.wp P (Exit.then (z.wp P Q) Q)) (Exit.then (z.wp P Q) Q)) L2 L2 ρ l r):GL P K (Exit.then ((Code.seq (.seq (.region id L2.toArray false) y) z).wp P Q) Q) L [] ρ l r:=Zn (G.seq (G.seq (G.region h)))
theorem bK (h:G P K (Exit.then (y.wp P Q) Q) x ρ l r):GL P K (Exit.then ((Code.seq x y).wp P Q) Q) L [] ρ l r:=Zn (G.seq h)
theorem Zw5 {id:Nat} {L2:List Oper} (h:GL P K (Exit.then (y.wp P Q) Q) L2 L2 ρ l r):G P K Q (.seq (.region id L2.toArray false) y) ρ l r:=G.seq (G.region h)
theorem Zw6 {id:Nat} {L2:List Oper} (h:GL P K (Exit.then (y.wp P (Exit.then (z.wp P Q) Q)) (Exit.then (z.wp P Q) Q)) L2 L2 ρ l r):G P K Q (.seq (.seq (.region id L2.toArray false) y) z) ρ l r:=G.seq (G.seq (G.region h))
theorem bG (h:G P K Q y ρ l r):G P K (Exit.then (y.wp P Q) Q) .skip ρ l r:=G.skip (GQ.aa h)
theorem Zw8 {id:Nat} {L2:List Oper} (h:GL P K (Exit.then (y.wp P Q) Q) L2 L2 ρ l r):G P K (Exit.then ((Code.seq (.region id L2.toArray false) y).wp P Q) Q) .skip ρ l r:=bG (G.seq (G.region h))
theorem Zb {I:Nat→bx→List aV→Prop} {n m:Nat} (hI:I m ρ0 l) (hm:m<n:=by omega) (hs:ρ0.map (fun p=>look p.1 ρ)=ρ0.map (fun p=>some p.2):=by exact rfl):GQ K (Exit.then (IU K I r n) Q) .normal ρ l r:=GQ.back hm hI (Sub.ofMap hs)
theorem Zm {M:bx→List aV→Prop} (hM:M ρ0 l) (hs:ρ0.map (fun p=>look p.1 ρ)=ρ0.map (fun p=>some p.2):=by exact rfl):GQ K (Exit.then (fun a w=>∃ρ l,M ρ l∧At K ρ l r a w) Q) .normal ρ l r:=GQ.meet hM (Sub.ofMap hs)
theorem Zo {c:Code} (I:Nat→bx→List aV→Prop) {n:Nat} (h0:I n ρ0 l) (h:∀n ρ l,I n ρ l→G P K (Exit.then (IU K I r n) Q) c ρ l r) (hs:ρ0.map (fun p=>look p.1 ρ)=ρ0.map (fun p=>some p.2):=by exact rfl):G P K Q (.loop c) ρ l r:=G.loop I h0 (Sub.ofMap hs) h
theorem Zc {c:Operand} {p:Prop} [Decidable p] (ht:p→G P K Q x ρ l r) (hf:¬p→G P K Q y ρ l r) (hc:ev ρ c=some (.bool (decide p)):=by exact rfl):G P K Q (.cond c x y) ρ l r:=G.IT hc ht hf
end
section
variable {P:Program} {K:Kx} {Q:Exit→Act→World→Prop} {ρ ρ':bx} {l r:List aV} {L2 hY:List Oper} {L:List Oper} {x y z:Code} {id:Nat}
theorem YG (h:GL P K Q L2 hY ρ' l r) (hs:qK L2 K.n L2 ρ=some (hY,ρ'):=by exact rfl):G P K Q (.region id L2.toArray false) ρ l r:=G.region (Ya h hs)
theorem Y1 (h:GL P K Q L2 hY ρ' l r) (hs:qK L2 K.n L2 ρ=some (hY,ρ'):=by exact rfl):GL P K (Exit.then ((Code.region id L2.toArray false).wp P Q) Q) L [] ρ l r:=Zw1 (Ya h hs)
theorem Y2 (h:GL P K (Exit.then (y.wp P Q) Q) L2 hY ρ' l r) (hs:qK L2 K.n L2 ρ=some (hY,ρ'):=by exact rfl):GL P K (Exit.then ((Code.seq (.region id L2.toArray false) y).wp P Q) Q) L [] ρ l r:=Zw2 (Ya h hs)
theorem Y3 (h:GL P K (Exit.then (y.wp P (Exit.then (z.wp P Q) Q)) (Exit.then (z.wp P Q) Q)) L2 hY ρ' l r) (hs:qK L2 K.n L2 ρ=some (hY,ρ'):=by exact rfl):GL P K (Exit.then ((Code.seq (.seq (.region id L2.toArray false) y) z).wp P Q) Q) L [] ρ l r:=Zw3 (Ya h hs)
theorem Y5 (h:GL P K (Exit.then (y.wp P Q) Q) L2 hY ρ' l r) (hs:qK L2 K.n L2 ρ=some (hY,ρ'):=by exact rfl):G P K Q (.seq (.region id L2.toArray false) y) ρ l r:=Zw5 (Ya h hs)
theorem Y6 (h:GL P K (Exit.then (y.wp P (Exit.then (z.wp P Q) Q)) (Exit.then (z.wp P Q) Q)) L2 hY ρ' l r) (hs:qK L2 K.n L2 ρ=some (hY,ρ'):=by exact rfl):G P K Q (.seq (.seq (.region id L2.toArray false) y) z) ρ l r:=Zw6 (Ya h hs)
theorem Y8 (h:GL P K (Exit.then (y.wp P Q) Q) L2 hY ρ' l r) (hs:qK L2 K.n L2 ρ=some (hY,ρ'):=by exact rfl):G P K (Exit.then ((Code.seq (.region id L2.toArray false) y).wp P Q) Q) .skip ρ l r:=Zw8 (Ya h hs)
end
section
variable {P:Program} {ρ:bx} {o:Oper} {x y:Operand} {s f n t b q len cap sz:Nat} {l r:List aV} {v:Value} {k k':IntKind} {ty cS:TypeId}
theorem Zf (hP:fieldOff P s f=some n) (ho:o.op=.fieldAddr s x f:=by exact rfl) (hx:ev ρ x=some (.pointer (some ⟨b,q,none⟩)):=by exact rfl):bJ P ρ o (.pointer (some ⟨b,q+n,none⟩)):=akk ho hx hP
theorem aR {p:Option Addr} {a:Call} {s:Nat} (hu:P.underlying t=some (.slice s)) (ho:o.op=.call a:=by exact rfl) (hc:a.callee=.builtin .len:=by exact rfl) (hx:evs ρ a.args.toList=some [.slice p len cap]:=by exact rfl) (ht:a.argTypes= #[t]:=by exact rfl):bJ P ρ o (.int .i64 ((len:Nat):Int)):=acZ ho hc hx ht hu
theorem eE (m n:Nat) (ho:o.op=.binOp .lss ty x y cS:=by exact rfl) (hx:ev ρ x=some (.int k ((m:Nat):Int)):=by exact rfl) (hy:ev ρ y=some (.int k ((n:Nat):Int)):=by exact rfl):bJ P ρ o (.bool (decide (((m:Nat):Int)<((n:Nat):Int)))):=ub ho hx hy
theorem vS (m n:Nat) (ho:o.op=.binOp .leq ty x y cS:=by exact rfl) (hx:ev ρ x=some (.int k ((m:Nat):Int)):=by exact rfl) (hy:ev ρ y=some (.int k ((n:Nat):Int)):=by exact rfl):bJ P ρ o (.bool (decide (((m:Nat):Int)≤((n:Nat):Int)))):=PM ho hx hy
theorem eR (m n:Nat) (ho:o.op=.binOp .gtr ty x y cS:=by exact rfl) (hx:ev ρ x=some (.int k ((m:Nat):Int)):=by exact rfl) (hy:ev ρ y=some (.int k ((n:Nat):Int)):=by exact rfl):bJ P ρ o (.bool (decide (((n:Nat):Int)<((m:Nat):Int)))):=IW ho hx hy
theorem iI (m n:Nat) (ho:o.op=.binOp .geq ty x y cS:=by exact rfl) (hx:ev ρ x=some (.int k ((m:Nat):Int)):=by exact rfl) (hy:ev ρ y=some (.int k ((n:Nat):Int)):=by exact rfl):bJ P ρ o (.bool (decide (((n:Nat):Int)≤((m:Nat):Int)))):=Bq ho hx hy
theorem fK (m n:Nat) (ho:o.op=.binOp .eql ty x y cS:=by exact rfl) (hx:ev ρ x=some (.int k ((m:Nat):Int)):=by exact rfl) (hy:ev ρ y=some (.int k ((n:Nat):Int)):=by exact rfl):bJ P ρ o (.bool (decide (((m:Nat):Int)=((n:Nat):Int)))):=re ho hx hy
theorem vT (m n:Nat) (ho:o.op=.binOp .neq ty x y cS:=by exact rfl) (hx:ev ρ x=some (.int k ((m:Nat):Int)):=by exact rfl) (hy:ev ρ y=some (.int k ((n:Nat):Int)):=by exact rfl):bJ P ρ o (.bool (decide (((m:Nat):Int)≠((n:Nat):Int)))):=akj ho hx hy
theorem Zq {A:Nat} (B:Nat) (h:bJ P ρ o (.int k ((A:Nat):Int))) (e:A=B:=by omega):bJ P ρ o (.int k ((B:Nat):Int)):=e▸h
theorem mT {A:Nat} (B:Nat) (h:rU P ρ l r o (.int k ((A:Nat):Int))) (e:A=B:=by omega):rU P ρ l r o (.int k ((B:Nat):Int)):=e▸h
theorem Zx (q' m:Nat) (hP:cx P t=some 1) (ho:o.op=.indexAddr t x y:=by exact rfl) (hx:ev ρ x=some (.slice (some ⟨b,q,none⟩) len cap):=by exact rfl) (hy:ev ρ y=some (.int k (m:Nat)):=by exact rfl) (h:m<len:=by omega) (hq:q+m=q':=by omega):bJ P ρ o (.pointer (some ⟨b,q',none⟩)):=acU ho hx hy hP h hq
theorem tX (q' m:Nat) (hP:dJ P t=some (n,sz)) (ho:o.op=.indexAddr t x y:=by exact rfl) (hx:ev ρ x=some (.pointer (some ⟨b,q,none⟩)):=by exact rfl) (hy:ev ρ y=some (.int k (m:Nat)):=by exact rfl) (h:m<n:=by omega) (hq:q+m*sz=q':=by omega):bJ P ρ o (.pointer (some ⟨b,q',none⟩)):=acV ho hx hy hP h hq
theorem dw (q' m:Nat) (hP:dJ P t=some (n,1)) (ho:o.op=.indexAddr t x y:=by exact rfl) (hx:ev ρ x=some (.pointer (some ⟨b,q,none⟩)):=by exact rfl) (hy:ev ρ y=some (.int k (m:Nat)):=by exact rfl) (h:m<n:=by omega) (hq:q+m=q':=by omega):bJ P ρ o (.pointer (some ⟨b,q',none⟩)):=acW ho hx hy hP h hq
theorem Zl {sg:aV} (i j:Nat) (hP:fm P t=some false) (hs:nthS i l=some sg:=by exact rfl) (ho:o.op=.load t x:=by exact rfl) (hx:ev ρ x=some (.pointer (some ⟨sg.b,q,none⟩)):=by exact rfl) (hq:q=sg.o+j:=by exact rfl) (hc:sg.cs[j]? =some v:=by exact rfl):rU P ρ l r o v:=cQ i j hs ho hx hP hq hc
theorem Zk {sg:aV} (i j:Nat) (hP:fm P t=some false) (hs:nthS i r=some sg:=by exact rfl) (ho:o.op=.load t x:=by exact rfl) (hx:ev ρ x=some (.pointer (some ⟨sg.b,q,none⟩)):=by exact rfl) (hq:q=sg.o+j:=by exact rfl) (hc:sg.cs[j]? =some v:=by exact rfl):rU P ρ l r o v:=uT i j hs ho hx hP hq hc
theorem mZ {sg:aV} (i j:Nat) (hP:fm P t=some false) (hs:nthS i l=some sg) (hc:sg.cs[j]? =some v) (ho:o.op=.load t x:=by exact rfl) (hx:ev ρ x=some (.pointer (some ⟨sg.b,q,none⟩)):=by exact rfl) (hq:q=sg.o+j:=by exact rfl):rU P ρ l r o v:=cQ i j hs ho hx hP hq hc
theorem gI {sg:aV} (i j:Nat) (hP:fm P t=some false) (hs:nthS i r=some sg) (hc:sg.cs[j]? =some v) (ho:o.op=.load t x:=by exact rfl) (hx:ev ρ x=some (.pointer (some ⟨sg.b,q,none⟩)):=by exact rfl) (hq:q=sg.o+j:=by exact rfl):rU P ρ l r o v:=uT i j hs ho hx hP hq hc
theorem ED {sg:aV} {vs:List Value} {n:Nat} (i j:Nat) (hP:fm P t=some true) (hz:cL P t=some n) (hs:nthS i l=some sg:=by exact rfl) (ho:o.op=.load t x:=by exact rfl) (hx:ev ρ x=some (.pointer (some ⟨sg.b,q,none⟩)):=by exact rfl) (hq:q=sg.o+j:=by exact rfl) (hv:(sg.cs.drop j).take n=vs:=by exact rfl) (hn:vs.length=n:=by exact rfl):rU P ρ l r o (.agg vs.toArray):=yV i j hs ho hx hP hz hq hv hn
end
section
variable {P:Program} {K:Kx} {ρ:bx} {l r:List aV} {o:Oper} {x y:Operand} {t q n:Nat} {v:Value}
theorem aS {sg:aV} (i j:Nat) (hP:cL P t=some 1) (hs:nthS i l=some sg:=by exact rfl) (ho:o.op=.store t x y:=by exact rfl) (hx:ev ρ x=some (.pointer (some ⟨sg.b,q,none⟩)):=by exact rfl) (hy:ev ρ y=some v:=by exact rfl) (hv:v.oneCell'=true:=by exact rfl) (hq:q=sg.o+j:=by exact rfl) (hj:Nat.ble (j+1) sg.cs.length=true:=by exact rfl) (hd:o.dst=none:=by exact rfl):nN P K ρ l r o (fun ρ' l'=>ρ'=ρ∧l'=setS i ⟨sg.b,sg.o,sg.cs.set j v,sg.sh⟩ l):=gK i j hs ho hx hy hP hv hq (Nat.le_of_ble_eq_true hj) hd rfl
end
theorem Ov {p:Prop} (h:p:=by first|rfl|simp[Instr.fill,Value.cells,wB,wC,wD]):p:=h
section
variable {P:Program} {K:Kx} {ρ:bx} {l r:List aV} {o:Oper} {x y:Operand} {t q n b off v d f:Nat} {k k':IntKind} {D:List Nat} {sh:Option (TypeId × Nat)}
theorem ew (i j:Nat) (hP:cL P t=some 1) (hs:nthS i l=some ⟨b,off,ae k D,sh⟩:=by exact rfl) (ho:o.op=.store t x y:=by exact rfl) (hx:ev ρ x=some (.pointer (some ⟨b,q,none⟩)):=by exact rfl) (hy:ev ρ y=some (.int k ((v:Nat):Int)):=by exact rfl) (hd:o.dst=none:=by exact rfl)
    (hq:q=off+j:=by first|rfl|exact(Nat.zero_add _).symm|omega) (hj:j<D.length:=by first|omega|(simp;omega)|simp):nN P K ρ l r o (fun ρ' l'=>ρ'=ρ∧l'=setS i ⟨b,off,ae k (D.set j v),sh⟩ l):=
  gK i j hs ho hx hy hP rfl hq (by rw[jk];exact hj) hd (Bu _ _ _ _)
theorem Zsa (i j:Nat) (hP:cL P t=some 1) (hs:nthS i l=some ⟨b,off,ae k D,sh⟩:=by exact rfl) (ho:o.op=.store t x y:=by exact rfl) (hx:ev ρ x=some (.pointer (some ⟨b,q,none⟩)):=by exact rfl) (hy:ev ρ y=some (.agg #[.int k ((v:Nat):Int)]):=by exact rfl) (hd:o.dst=none:=by exact rfl)
    (hq:q=off+j:=by first|rfl|exact(Nat.zero_add _).symm|omega) (hj:j<D.length:=by first|omega|(simp;omega)|simp):nN P K ρ l r o (fun ρ' l'=>ρ'=ρ∧l'=setS i ⟨b,off,ae k (D.set j v),sh⟩ l):=
  wj (vs:=[.int k ((v:Nat):Int)]) i j hs ho hx hy hP rfl rfl hq (by show j+1≤(ae k D).length;rw[jk];exact hj) hd (by show(ae k D).set j _=_;exact Bu _ _ _ _)
theorem ix {sg:aV} {vs:List Value} (i:Nat) (hP:cL P t=some n) (hs:nthS i l=some sg:=by exact rfl) (ho:o.op=.store t x y:=by exact rfl) (hx:ev ρ x=some (.pointer (some ⟨sg.b,q,none⟩)):=by exact rfl) (hy:ev ρ y=some (.agg vs.toArray):=by exact rfl) (hd:o.dst=none:=by exact rfl) (hq:q=sg.o:=by exact rfl)
    (hn:vs.length=n:=by exact rfl) (hv:(vs.all fun u=>u.oneCell')=true:=by exact rfl) (hj:Nat.ble n sg.cs.length=true:=by exact rfl) (hc:spl sg.cs 0 vs=vs:=by exact rfl):nN P K ρ l r o (fun ρ' l'=>ρ'=ρ∧l'=setS i ⟨sg.b,sg.o,vs,sg.sh⟩ l):=
  wj i 0 hs ho hx hy hP hn hv hq (by rw[Nat.zero_add];exact Nat.le_of_ble_eq_true hj) hd hc
theorem kf {cs:List Value} (hz:eL P t=some cs) (ho:o.op=.alloc t:=by exact rfl) (hd:o.dst=some d:=by exact rfl) (hn:Nat.blt d K.n=true:=by exact rfl):
    nN P K ρ l r o (fun ρ' l'=>∃b,ρ'=(d,.pointer (some ⟨b,0,none⟩))::ρ∧l'=⟨b,0,cs,none⟩::l):=akl ho hz hd hn
def zE (L:List Oper) (o:Oper) (n:Nat) (ρ:bx) (l r:List aV) (is rs:List Nat):Option (Nat × FuncId × List Value × List aV × List aV × List aV):=match want L ρ o with
  |some true=>match o.op with
    | .call c=>match c.callee with
      | .value (.func f)=>match evs ρ c.args.toList with
        |some args=>match pickS is l with
          |some (lc,rest)=>match pickR rs (rest++r) with
            |some rc=>match o.dst with
              |some d=>match Nat.blt d n with
                |true=>some (d,f,args,lc,rest,rc)
                |false=>none
              |none=>none
            |none=>none
          |none=>none
        |none=>none
      |_=>none
    |_=>none
  |_=>none
def zF (L:List Oper) (i n:Nat) (ρ:bx) (l r:List aV) (is rs:List Nat):Option (Nat × FuncId × List Value × List aV × List aV × List aV):=match nth i L with
  |some o=>zE L o n ρ l r is rs
  |none=>none
theorem nG {f:FuncId} {L:List Oper} {is rs:List Nat} {args:List Value} {lc rest rc:List aV} {fo:Value→List aV→Prop} (h:zE L o K.n ρ l r is rs=some (d,f,args,lc,rest,rc)) (vF:bR P f args lc rc fo):
    want L ρ o=some true∧nN P K ρ l r o (fun ρ' l'=>∃v zY,fo v zY∧ρ'=(d,v)::ρ∧l'=zY++rest):=by
  unfold zE at h;repeat' split at h
  all_goals first
    |(cases h;exact⟨Oa,Ux is rs vF Oa Oa Oa Oa Oa Oa Oa⟩)
    |cases h
theorem nH {L:List Oper} {i:Nat} {is rs:List Nat} {z:Nat × FuncId × List Value × List aV × List aV × List aV} (h:zF L i n ρ l r is rs=some z):nth i L=some (j9 i L)∧zE L (j9 i L) n ρ l r is rs=some z:=by
  unfold zF at h;split at h
  · rename_i o ho;rw[vR ho];exact⟨ho,h⟩
  · cases h
variable {Q:Exit→Act→World→Prop} {L rest:List Oper} {fi:FuncId} {args:List Value} {lc l2 rc l1:List aV} {u:Value} {fo:Value→List aV→Prop} {i:Nat} {os:List (Nat × Kd)} {pl alt:Pl}
theorem dF (is rs:List Nat) (vF:bR P fi args lc rc fo) (hc:zE L o K.n ρ l r is rs=some (d,fi,args,lc,l2,rc)) (g:∀v l1,fo v l1→GL P K Q L rest ((d,v)::ρ) (l1++l2) r):GL P K Q L (o::rest) ρ l r:=
  GL.bV (nG hc vF).2 (nG hc vF).1 fun _ _ ⟨v,l1,h,h1,h2⟩=>by subst h1;subst h2;exact g v l1 h
theorem cR (is rs:List Nat) (vF:bR P fi args lc rc (fun v l'=>v=u∧l'=l1)) (hc:zE L o K.n ρ l r is rs=some (d,fi,args,lc,l2,rc)) (g:GL P K Q L rest ((d,u)::ρ) (l1++l2) r):GL P K Q L (o::rest) ρ l r:=
  dF is rs vF hc fun _ _ ⟨h1,h2⟩=>by subst h1;subst h2;exact g
theorem Rc (is rs:List Nat) (vF:bR P fi args lc rc fo) (hc:zF L i K.n ρ l r is rs=some (d,fi,args,lc,l2,rc)) (g:∀v l1,fo v l1→GP P K Q L os ((d,v)::ρ) (l1++l2) r):GP P K Q L ((i,.e)::os) ρ l r:=
  GP.bV (nG (nH hc).2 vF).2 (nH hc).1 (nG (nH hc).2 vF).1 fun _ _ ⟨v,l1,h,h1,h2⟩=>by subst h1;subst h2;exact g v l1 h
theorem fI (is rs:List Nat) (vF:bR P fi args lc rc (fun v l'=>v=u∧l'=l1)) (hc:zF L i K.n ρ l r is rs=some (d,fi,args,lc,l2,rc)) (g:GP P K Q L os ((d,u)::ρ) (l1++l2) r):GP P K Q L ((i,.e)::os) ρ l r:=
  Rc is rs vF hc fun _ _ ⟨h1,h2⟩=>by subst h1;subst h2;exact g
theorem mU (is rs:List Nat) (vF:bR P fi args lc rc fo) (hc:zF L i K.n ρ l r is rs=some (d,fi,args,lc,l2,rc)) (g:∀v l1,fo v l1→GT P K Q L pl ((d,v)::ρ) (l1++l2) r) (a:GT P K Q L alt ρ l r):GT P K Q L (.ef i pl alt) ρ l r:=
  GT.bV (nG (nH hc).2 vF).2 (nH hc).1 (nG (nH hc).2 vF).1 (fun _ _ ⟨v,l1,h,h1,h2⟩=>by subst h1;subst h2;exact g v l1 h) a
theorem dG (is rs:List Nat) (vF:bR P fi args lc rc (fun v l'=>v=u∧l'=l1)) (hc:zF L i K.n ρ l r is rs=some (d,fi,args,lc,l2,rc)) (g:GT P K Q L pl ((d,u)::ρ) (l1++l2) r) (a:GT P K Q L alt ρ l r):GT P K Q L (.ef i pl alt) ρ l r:=
  mU is rs vF hc (fun _ _ ⟨h1,h2⟩=>by subst h1;subst h2;exact g) a
theorem Zi {fn:Func} {c:Code} (hf:P.funcs[fi]? =some fn) (hb:fn.body=some c) (h:∀w0,G P ⟨fn.ntmps,l,w0⟩ (bodyPost P fn (Ends fo l r w0)) c (frArgs 0 args) l r) (JE:(fn.name== "runtime.NumGoroutine")=false:=by kernel_rfl) (hn:Nat.ble args.length fn.ntmps=true:=by exact rfl):bR P fi args l r fo:=
  bR.intro hf hb JE (Nat.le_of_ble_eq_true hn) h
theorem ZR {X:Act→World→Prop} (h:GQ K Q .ret ρ l r):GQ K (Exit.then X Q) .ret ρ l r:=h
theorem ZB {X:Nat} (h:GQ K Q .ret ρ l r):GQ K (Exit.inBlock X Q) .ret ρ l r:=h
end
abbrev YS (i:Nat) (p:Pl):Pl:=.st i false p
abbrev YE (i:Nat) (p q:Pl):Pl:=.ef i p q
abbrev YF (i:Nat) (p:Pl):Pl:=.ef i p .stop
abbrev dP:=Option (TypeId × Nat)
abbrev Va (x:Nat):Value:=.int .u8 ((x:Nat):Int)
abbrev Vb (x:Nat):Value:=.int .u16 ((x:Nat):Int)
abbrev Vc (x:Nat):Value:=.int .u32 ((x:Nat):Int)
abbrev Vd (x:Nat):Value:=.int .u64 ((x:Nat):Int)
abbrev Ve (x:Nat):Value:=.int .i8 ((x:Nat):Int)
abbrev Vf (x:Nat):Value:=.int .i16 ((x:Nat):Int)
abbrev Vg (x:Nat):Value:=.int .i32 ((x:Nat):Int)
abbrev Vh (x:Nat):Value:=.int .i64 ((x:Nat):Int)
abbrev Vp (b o:Nat):Value:=.pointer (some ⟨b,o,none⟩)
abbrev Vs (b o n c:Nat):Value:=.slice (some ⟨b,o,none⟩) n c
section
variable {P:Program} {ρ:bx} {o:Oper} {x y:Operand} {ty cS:TypeId}
theorem aT (m n:Nat) (ho:o.op=.binOp .add ty x y cS:=by exact rfl) (hx:ev ρ x=some (.int .u8 (m:Nat)):=by exact rfl) (hy:ev ρ y=some (.int .u8 (n:Nat)):=by exact rfl) (h:m+n≤255:=by omega):bJ P ρ o (.int .u8 ((m+n:Nat):Int)):=PT ho hx hy h
theorem dA (m n:Nat) (ho:o.op=.binOp .add ty x y cS:=by exact rfl) (hx:ev ρ x=some (.int .u16 (m:Nat)):=by exact rfl) (hy:ev ρ y=some (.int .u16 (n:Nat)):=by exact rfl) (h:m+n≤65535:=by omega):bJ P ρ o (.int .u16 ((m+n:Nat):Int)):=Jf ho hx hy h
theorem ck (m n:Nat) (ho:o.op=.binOp .add ty x y cS:=by exact rfl) (hx:ev ρ x=some (.int .u32 (m:Nat)):=by exact rfl) (hy:ev ρ y=some (.int .u32 (n:Nat)):=by exact rfl) (h:m+n≤4294967295:=by omega):bJ P ρ o (.int .u32 ((m+n:Nat):Int)):=Jl ho hx hy h
theorem fS (m n:Nat) (ho:o.op=.binOp .add ty x y cS:=by exact rfl) (hx:ev ρ x=some (.int .u64 (m:Nat)):=by exact rfl) (hy:ev ρ y=some (.int .u64 (n:Nat)):=by exact rfl) (h:m+n≤18446744073709551615:=by omega):bJ P ρ o (.int .u64 ((m+n:Nat):Int)):=Jw ho hx hy h
theorem fU (m n:Nat) (ho:o.op=.binOp .add ty x y cS:=by exact rfl) (hx:ev ρ x=some (.int .i16 (m:Nat)):=by exact rfl) (hy:ev ρ y=some (.int .i16 (n:Nat)):=by exact rfl) (h:m+n≤32767:=by omega):bJ P ρ o (.int .i16 ((m+n:Nat):Int)):=IY ho hx hy h
theorem Wo (m n:Nat) (ho:o.op=.binOp .add ty x y cS:=by exact rfl) (hx:ev ρ x=some (.int .i32 (m:Nat)):=by exact rfl) (hy:ev ρ y=some (.int .i32 (n:Nat)):=by exact rfl) (h:m+n≤2147483647:=by omega):bJ P ρ o (.int .i32 ((m+n:Nat):Int)):=I3 ho hx hy h
theorem an (m n:Nat) (ho:o.op=.binOp .add ty x y cS:=by exact rfl) (hx:ev ρ x=some (.int .i64 (m:Nat)):=by exact rfl) (hy:ev ρ y=some (.int .i64 (n:Nat)):=by exact rfl) (h:m+n≤9223372036854775807:=by omega):bJ P ρ o (.int .i64 ((m+n:Nat):Int)):=I8 ho hx hy h
theorem iG (m n:Nat) (ho:o.op=.binOp .add ty x y cS:=by exact rfl) (hx:ev ρ x=some (.int .u8 (m:Nat)):=by exact rfl) (hy:ev ρ y=some (.int .u8 (n:Nat)):=by exact rfl):bJ P ρ o (.int .u8 (((m+n)%256:Nat):Int)):=P0 ho hx hy
theorem dQ (m n:Nat) (ho:o.op=.binOp .and ty x y cS:=by exact rfl) (hx:ev ρ x=some (.int .u8 (m:Nat)):=by exact rfl) (hy:ev ρ y=some (.int .u8 (n:Nat)):=by exact rfl) (h:m<256∨n<256:=by omega) (hm:m<256:=by omega) (hn:n<256:=by omega):bJ P ρ o (.int .u8 ((m&&&n:Nat):Int)):=PW ho hx hy h hm hn
theorem gO (m n:Nat) (ho:o.op=.binOp .and ty x y cS:=by exact rfl) (hx:ev ρ x=some (.int .u16 (m:Nat)):=by exact rfl) (hy:ev ρ y=some (.int .u16 (n:Nat)):=by exact rfl) (h:m<65536∨n<65536:=by omega) (hm:m<65536:=by omega) (hn:n<65536:=by omega):bJ P ρ o (.int .u16 ((m&&&n:Nat):Int)):=Jh ho hx hy h hm hn
theorem gy (m n:Nat) (ho:o.op=.binOp .and ty x y cS:=by exact rfl) (hx:ev ρ x=some (.int .u32 (m:Nat)):=by exact rfl) (hy:ev ρ y=some (.int .u32 (n:Nat)):=by exact rfl) (h:m<4294967296∨n<4294967296:=by omega) (hm:m<4294967296:=by omega) (hn:n<4294967296:=by omega):bJ P ρ o (.int .u32 ((m&&&n:Nat):Int)):=Jo ho hx hy h hm hn
theorem jf (m n:Nat) (ho:o.op=.binOp .and ty x y cS:=by exact rfl) (hx:ev ρ x=some (.int .u64 (m:Nat)):=by exact rfl) (hy:ev ρ y=some (.int .u64 (n:Nat)):=by exact rfl) (h:m<18446744073709551616∨n<18446744073709551616:=by omega) (hm:m<18446744073709551616:=by omega) (hn:n<18446744073709551616:=by omega):bJ P ρ o (.int .u64 ((m&&&n:Nat):Int)):=Jz ho hx hy h hm hn
theorem AR (m n:Nat) (ho:o.op=.binOp .and ty x y cS:=by exact rfl) (hx:ev ρ x=some (.int .i64 (m:Nat)):=by exact rfl) (hy:ev ρ y=some (.int .i64 (n:Nat)):=by exact rfl) (h:m<9223372036854775808∨n<9223372036854775808:=by omega) (hm:m<18446744073709551616:=by omega) (hn:n<18446744073709551616:=by omega):bJ P ρ o (.int .i64 ((m&&&n:Nat):Int)):=Ja ho hx hy h hm hn
theorem aI (m:Nat) {s t:TypeId} {D:TypeDesc} {k:IntKind} (hs:P.underlying s=some D) (ht:P.underlying t=some (.int .u8)) (ho:o.op=.convert s t x:=by exact rfl) (hx:ev ρ x=some (.int k (m:Nat)):=by exact rfl) (h:m≤255:=by omega):bJ P ρ o (.int .u8 ((m:Nat):Int)):=Uu ho hs ht hx h
theorem lv (m:Nat) {s t:TypeId} {D:TypeDesc} {k:IntKind} (hs:P.underlying s=some D) (ht:P.underlying t=some (.int .u16)) (ho:o.op=.convert s t x:=by exact rfl) (hx:ev ρ x=some (.int k (m:Nat)):=by exact rfl) (h:m≤65535:=by omega):bJ P ρ o (.int .u16 ((m:Nat):Int)):=P5 ho hs ht hx h
theorem dy (m:Nat) {s t:TypeId} {D:TypeDesc} {k:IntKind} (hs:P.underlying s=some D) (ht:P.underlying t=some (.int .u32)) (ho:o.op=.convert s t x:=by exact rfl) (hx:ev ρ x=some (.int k (m:Nat)):=by exact rfl) (h:m≤4294967295:=by omega):bJ P ρ o (.int .u32 ((m:Nat):Int)):=P8 ho hs ht hx h
theorem dH (m:Nat) {s t:TypeId} {D:TypeDesc} {k:IntKind} (hs:P.underlying s=some D) (ht:P.underlying t=some (.int .u64)) (ho:o.op=.convert s t x:=by exact rfl) (hx:ev ρ x=some (.int k (m:Nat)):=by exact rfl) (h:m≤18446744073709551615:=by omega):bJ P ρ o (.int .u64 ((m:Nat):Int)):=P' ho hs ht hx h
theorem Gs (m:Nat) {s t:TypeId} {D:TypeDesc} {k:IntKind} (hs:P.underlying s=some D) (ht:P.underlying t=some (.int .i8)) (ho:o.op=.convert s t x:=by exact rfl) (hx:ev ρ x=some (.int k (m:Nat)):=by exact rfl) (h:m≤127:=by omega):bJ P ρ o (.int .i8 ((m:Nat):Int)):=Ut ho hs ht hx h
theorem vj (m:Nat) {s t:TypeId} {D:TypeDesc} {k:IntKind} (hs:P.underlying s=some D) (ht:P.underlying t=some (.int .i16)) (ho:o.op=.convert s t x:=by exact rfl) (hx:ev ρ x=some (.int k (m:Nat)):=by exact rfl) (h:m≤32767:=by omega):bJ P ρ o (.int .i16 ((m:Nat):Int)):=PO ho hs ht hx h
theorem LF (m:Nat) {s t:TypeId} {D:TypeDesc} {k:IntKind} (hs:P.underlying s=some D) (ht:P.underlying t=some (.int .i32)) (ho:o.op=.convert s t x:=by exact rfl) (hx:ev ρ x=some (.int k (m:Nat)):=by exact rfl) (h:m≤2147483647:=by omega):bJ P ρ o (.int .i32 ((m:Nat):Int)):=PQ ho hs ht hx h
theorem fB (m:Nat) {s t:TypeId} {D:TypeDesc} {k:IntKind} (hs:P.underlying s=some D) (ht:P.underlying t=some (.int .i64)) (ho:o.op=.convert s t x:=by exact rfl) (hx:ev ρ x=some (.int k (m:Nat)):=by exact rfl) (h:m≤9223372036854775807:=by omega):bJ P ρ o (.int .i64 ((m:Nat):Int)):=PR ho hs ht hx h
theorem bM (m:Nat) {s t:TypeId} {D:TypeDesc} {k:IntKind} (hs:P.underlying s=some D) (ht:P.underlying t=some (.int .u8)) (ho:o.op=.convert s t x:=by exact rfl) (hx:ev ρ x=some (.int k (m:Nat)):=by exact rfl):bJ P ρ o (.int .u8 ((m%256:Nat):Int)):=Uv ho hs ht hx
theorem Gt (m:Nat) {s t:TypeId} {D:TypeDesc} {k:IntKind} (hs:P.underlying s=some D) (ht:P.underlying t=some (.int .u16)) (ho:o.op=.convert s t x:=by exact rfl) (hx:ev ρ x=some (.int k (m:Nat)):=by exact rfl):bJ P ρ o (.int .u16 ((m%65536:Nat):Int)):=P7 ho hs ht hx
theorem adX (m:Nat) {s t:TypeId} {D:TypeDesc} {k:IntKind} (hs:P.underlying s=some D) (ht:P.underlying t=some (.int .u32)) (ho:o.op=.convert s t x:=by exact rfl) (hx:ev ρ x=some (.int k (m:Nat)):=by exact rfl):bJ P ρ o (.int .u32 ((m%4294967296:Nat):Int)):=P9 ho hs ht hx
theorem AS (m n:Nat) (ho:o.op=.binOp .mul ty x y cS:=by exact rfl) (hx:ev ρ x=some (.int .u8 (m:Nat)):=by exact rfl) (hy:ev ρ y=some (.int .u8 (n:Nat)):=by exact rfl) (h:m*n≤255:=by omega):bJ P ρ o (.int .u8 ((m*n:Nat):Int)):=PU ho hx hy h
theorem EE (m n:Nat) (ho:o.op=.binOp .mul ty x y cS:=by exact rfl) (hx:ev ρ x=some (.int .u32 (m:Nat)):=by exact rfl) (hy:ev ρ y=some (.int .u32 (n:Nat)):=by exact rfl) (h:m*n≤4294967295:=by omega):bJ P ρ o (.int .u32 ((m*n:Nat):Int)):=Jm ho hx hy h
theorem rH (m n:Nat) (ho:o.op=.binOp .mul ty x y cS:=by exact rfl) (hx:ev ρ x=some (.int .u64 (m:Nat)):=by exact rfl) (hy:ev ρ y=some (.int .u64 (n:Nat)):=by exact rfl) (h:m*n≤18446744073709551615:=by omega):bJ P ρ o (.int .u64 ((m*n:Nat):Int)):=Jx ho hx hy h
theorem Wp (m n:Nat) (ho:o.op=.binOp .mul ty x y cS:=by exact rfl) (hx:ev ρ x=some (.int .i16 (m:Nat)):=by exact rfl) (hy:ev ρ y=some (.int .i16 (n:Nat)):=by exact rfl) (h:m*n≤32767:=by omega):bJ P ρ o (.int .i16 ((m*n:Nat):Int)):=IZ ho hx hy h
theorem LG (m n:Nat) (ho:o.op=.binOp .mul ty x y cS:=by exact rfl) (hx:ev ρ x=some (.int .i32 (m:Nat)):=by exact rfl) (hy:ev ρ y=some (.int .i32 (n:Nat)):=by exact rfl) (h:m*n≤2147483647:=by omega):bJ P ρ o (.int .i32 ((m*n:Nat):Int)):=I4 ho hx hy h
theorem xy (m n:Nat) (ho:o.op=.binOp .mul ty x y cS:=by exact rfl) (hx:ev ρ x=some (.int .i64 (m:Nat)):=by exact rfl) (hy:ev ρ y=some (.int .i64 (n:Nat)):=by exact rfl) (h:m*n≤9223372036854775807:=by omega):bJ P ρ o (.int .i64 ((m*n:Nat):Int)):=I9 ho hx hy h
theorem Wq (m n:Nat) (ho:o.op=.binOp .mul ty x y cS:=by exact rfl) (hx:ev ρ x=some (.int .u32 (m:Nat)):=by exact rfl) (hy:ev ρ y=some (.int .u32 (n:Nat)):=by exact rfl):bJ P ρ o (.int .u32 (((m*n)%4294967296:Nat):Int)):=Jt ho hx hy
theorem tE (m n:Nat) (ho:o.op=.binOp .or ty x y cS:=by exact rfl) (hx:ev ρ x=some (.int .u8 (m:Nat)):=by exact rfl) (hy:ev ρ y=some (.int .u8 (n:Nat)):=by exact rfl) (hm:m<256:=by omega) (hn:n<256:=by omega):bJ P ρ o (.int .u8 ((m|||n:Nat):Int)):=zW ho hx hy hm hn
theorem adY (m n:Nat) (ho:o.op=.binOp .or ty x y cS:=by exact rfl) (hx:ev ρ x=some (.int .u16 (m:Nat)):=by exact rfl) (hy:ev ρ y=some (.int .u16 (n:Nat)):=by exact rfl) (hm:m<65536:=by omega) (hn:n<65536:=by omega):bJ P ρ o (.int .u16 ((m|||n:Nat):Int)):=P4 ho hx hy hm hn
theorem xz (m n:Nat) (ho:o.op=.binOp .or ty x y cS:=by exact rfl) (hx:ev ρ x=some (.int .u32 (m:Nat)):=by exact rfl) (hy:ev ρ y=some (.int .u32 (n:Nat)):=by exact rfl) (hm:m<4294967296:=by omega) (hn:n<4294967296:=by omega):bJ P ρ o (.int .u32 ((m|||n:Nat):Int)):=ly ho hx hy hm hn
theorem ka (m n:Nat) (ho:o.op=.binOp .or ty x y cS:=by exact rfl) (hx:ev ρ x=some (.int .u64 (m:Nat)):=by exact rfl) (hy:ev ρ y=some (.int .u64 (n:Nat)):=by exact rfl) (hm:m<18446744073709551616:=by omega) (hn:n<18446744073709551616:=by omega):bJ P ρ o (.int .u64 ((m|||n:Nat):Int)):=nQ ho hx hy hm hn
theorem LH (m n:Nat) (ho:o.op=.binOp .quo ty x y cS:=by exact rfl) (hx:ev ρ x=some (.int .u8 (m:Nat)):=by exact rfl) (hy:ev ρ y=some (.int .u8 (n:Nat)):=by exact rfl) (h0:0<n:=by omega) (hm:m≤255:=by omega):bJ P ρ o (.int .u8 ((m/n:Nat):Int)):=PZ ho hx hy h0 hm
theorem LI (m n:Nat) (ho:o.op=.binOp .quo ty x y cS:=by exact rfl) (hx:ev ρ x=some (.int .u32 (m:Nat)):=by exact rfl) (hy:ev ρ y=some (.int .u32 (n:Nat)):=by exact rfl) (h0:0<n:=by omega) (hm:m≤4294967295:=by omega):bJ P ρ o (.int .u32 ((m/n:Nat):Int)):=Jr ho hx hy h0 hm
theorem EF (m n:Nat) (ho:o.op=.binOp .quo ty x y cS:=by exact rfl) (hx:ev ρ x=some (.int .u64 (m:Nat)):=by exact rfl) (hy:ev ρ y=some (.int .u64 (n:Nat)):=by exact rfl) (h0:0<n:=by omega) (hm:m≤18446744073709551615:=by omega):bJ P ρ o (.int .u64 ((m/n:Nat):Int)):=JC ho hx hy h0 hm
theorem iq (m n:Nat) (ho:o.op=.binOp .quo ty x y cS:=by exact rfl) (hx:ev ρ x=some (.int .i64 (m:Nat)):=by exact rfl) (hy:ev ρ y=some (.int .i64 (n:Nat)):=by exact rfl) (h0:0<n:=by omega) (hm:m≤9223372036854775807:=by omega):bJ P ρ o (.int .i64 ((m/n:Nat):Int)):=Jd ho hx hy h0 hm
theorem Wr (m n:Nat) (ho:o.op=.binOp .rem ty x y cS:=by exact rfl) (hx:ev ρ x=some (.int .u32 (m:Nat)):=by exact rfl) (hy:ev ρ y=some (.int .u32 (n:Nat)):=by exact rfl) (h0:0<n:=by omega):bJ P ρ o (.int .u32 ((m%n:Nat):Int)):=Js ho hx hy h0
theorem pT (m n:Nat) (ho:o.op=.binOp .rem ty x y cS:=by exact rfl) (hx:ev ρ x=some (.int .i64 (m:Nat)):=by exact rfl) (hy:ev ρ y=some (.int .i64 (n:Nat)):=by exact rfl) (h0:0<n:=by omega):bJ P ρ o (.int .i64 ((m%n:Nat):Int)):=Je ho hx hy h0
theorem ov (m n:Nat) {k':IntKind} (ho:o.op=.binOp .shl ty x y cS:=by exact rfl) (hx:ev ρ x=some (.int .u8 (m:Nat)):=by exact rfl) (hy:ev ρ y=some (.int k' (n:Nat)):=by exact rfl) (hn:n≤8:=by omega) (h:m*2^n≤255:=by omega):bJ P ρ o (.int .u8 ((m*2^n:Nat):Int)):=PY ho hx hy hn h
theorem LJ (m n:Nat) {k':IntKind} (ho:o.op=.binOp .shl ty x y cS:=by exact rfl) (hx:ev ρ x=some (.int .u16 (m:Nat)):=by exact rfl) (hy:ev ρ y=some (.int k' (n:Nat)):=by exact rfl) (hn:n≤16:=by omega) (h:m*2^n≤65535:=by omega):bJ P ρ o (.int .u16 ((m*2^n:Nat):Int)):=Jj ho hx hy hn h
theorem AT (m n:Nat) {k':IntKind} (ho:o.op=.binOp .shl ty x y cS:=by exact rfl) (hx:ev ρ x=some (.int .u32 (m:Nat)):=by exact rfl) (hy:ev ρ y=some (.int k' (n:Nat)):=by exact rfl) (hn:n≤32:=by omega) (h:m*2^n≤4294967295:=by omega):bJ P ρ o (.int .u32 ((m*2^n:Nat):Int)):=Jq ho hx hy hn h
theorem EG (m n:Nat) {k':IntKind} (ho:o.op=.binOp .shl ty x y cS:=by exact rfl) (hx:ev ρ x=some (.int .u64 (m:Nat)):=by exact rfl) (hy:ev ρ y=some (.int k' (n:Nat)):=by exact rfl) (hn:n≤64:=by omega) (h:m*2^n≤18446744073709551615:=by omega):bJ P ρ o (.int .u64 ((m*2^n:Nat):Int)):=JB ho hx hy hn h
theorem EH (m n:Nat) {k':IntKind} (ho:o.op=.binOp .shl ty x y cS:=by exact rfl) (hx:ev ρ x=some (.int .i16 (m:Nat)):=by exact rfl) (hy:ev ρ y=some (.int k' (n:Nat)):=by exact rfl) (hn:n≤16:=by omega) (h:m*2^n≤32767:=by omega):bJ P ρ o (.int .i16 ((m*2^n:Nat):Int)):=I2 ho hx hy hn h
theorem EI (m n:Nat) {k':IntKind} (ho:o.op=.binOp .shl ty x y cS:=by exact rfl) (hx:ev ρ x=some (.int .i32 (m:Nat)):=by exact rfl) (hy:ev ρ y=some (.int k' (n:Nat)):=by exact rfl) (hn:n≤32:=by omega) (h:m*2^n≤2147483647:=by omega):bJ P ρ o (.int .i32 ((m*2^n:Nat):Int)):=I7 ho hx hy hn h
theorem gz (m n:Nat) {k':IntKind} (ho:o.op=.binOp .shl ty x y cS:=by exact rfl) (hx:ev ρ x=some (.int .i64 (m:Nat)):=by exact rfl) (hy:ev ρ y=some (.int k' (n:Nat)):=by exact rfl) (hn:n≤64:=by omega) (h:m*2^n≤9223372036854775807:=by omega):bJ P ρ o (.int .i64 ((m*2^n:Nat):Int)):=Jc ho hx hy hn h
theorem EJ (m n:Nat) {k':IntKind} (ho:o.op=.binOp .shl ty x y cS:=by exact rfl) (hx:ev ρ x=some (.int .u8 (m:Nat)):=by exact rfl) (hy:ev ρ y=some (.int k' (n:Nat)):=by exact rfl):bJ P ρ o (.int .u8 ((m*2^n%256:Nat):Int)):=P3 ho hx hy
theorem EK (m n:Nat) {k':IntKind} (ho:o.op=.binOp .shl ty x y cS:=by exact rfl) (hx:ev ρ x=some (.int .u16 (m:Nat)):=by exact rfl) (hy:ev ρ y=some (.int k' (n:Nat)):=by exact rfl):bJ P ρ o (.int .u16 ((m*2^n%65536:Nat):Int)):=Jk ho hx hy
theorem eH (m n:Nat) {k':IntKind} (ho:o.op=.binOp .shl ty x y cS:=by exact rfl) (hx:ev ρ x=some (.int .u32 (m:Nat)):=by exact rfl) (hy:ev ρ y=some (.int k' (n:Nat)):=by exact rfl):bJ P ρ o (.int .u32 ((m*2^n%4294967296:Nat):Int)):=Jv ho hx hy
theorem eI (m n:Nat) {k':IntKind} (ho:o.op=.binOp .shl ty x y cS:=by exact rfl) (hx:ev ρ x=some (.int .u64 (m:Nat)):=by exact rfl) (hy:ev ρ y=some (.int k' (n:Nat)):=by exact rfl):bJ P ρ o (.int .u64 ((m*2^n%18446744073709551616:Nat):Int)):=JD ho hx hy
theorem xC (m n:Nat) {k':IntKind} (ho:o.op=.binOp .shr ty x y cS:=by exact rfl) (hx:ev ρ x=some (.int .u8 (m:Nat)):=by exact rfl) (hy:ev ρ y=some (.int k' (n:Nat)):=by exact rfl) (h:m<256:=by omega):bJ P ρ o (.int .u8 ((m/2^n:Nat):Int)):=PX ho hx hy h
theorem bU (m n:Nat) {k':IntKind} (ho:o.op=.binOp .shr ty x y cS:=by exact rfl) (hx:ev ρ x=some (.int .u16 (m:Nat)):=by exact rfl) (hy:ev ρ y=some (.int k' (n:Nat)):=by exact rfl) (h:m<65536:=by omega):bJ P ρ o (.int .u16 ((m/2^n:Nat):Int)):=Ji ho hx hy h
theorem ez (m n:Nat) {k':IntKind} (ho:o.op=.binOp .shr ty x y cS:=by exact rfl) (hx:ev ρ x=some (.int .u32 (m:Nat)):=by exact rfl) (hy:ev ρ y=some (.int k' (n:Nat)):=by exact rfl) (h:m<4294967296:=by omega):bJ P ρ o (.int .u32 ((m/2^n:Nat):Int)):=Jp ho hx hy h
theorem aY (m n:Nat) {k':IntKind} (ho:o.op=.binOp .shr ty x y cS:=by exact rfl) (hx:ev ρ x=some (.int .u64 (m:Nat)):=by exact rfl) (hy:ev ρ y=some (.int k' (n:Nat)):=by exact rfl) (h:m<18446744073709551616:=by omega):bJ P ρ o (.int .u64 ((m/2^n:Nat):Int)):=JA ho hx hy h
theorem LK (m n:Nat) {k':IntKind} (ho:o.op=.binOp .shr ty x y cS:=by exact rfl) (hx:ev ρ x=some (.int .i16 (m:Nat)):=by exact rfl) (hy:ev ρ y=some (.int k' (n:Nat)):=by exact rfl) (h:m<65536:=by omega):bJ P ρ o (.int .i16 ((m/2^n:Nat):Int)):=I1 ho hx hy h
theorem EL (m n:Nat) {k':IntKind} (ho:o.op=.binOp .shr ty x y cS:=by exact rfl) (hx:ev ρ x=some (.int .i32 (m:Nat)):=by exact rfl) (hy:ev ρ y=some (.int k' (n:Nat)):=by exact rfl) (h:m<4294967296:=by omega):bJ P ρ o (.int .i32 ((m/2^n:Nat):Int)):=I6 ho hx hy h
theorem uJ (m n:Nat) {k':IntKind} (ho:o.op=.binOp .shr ty x y cS:=by exact rfl) (hx:ev ρ x=some (.int .i64 (m:Nat)):=by exact rfl) (hy:ev ρ y=some (.int k' (n:Nat)):=by exact rfl) (h:m<18446744073709551616:=by omega):bJ P ρ o (.int .i64 ((m/2^n:Nat):Int)):=Jb ho hx hy h
theorem aN (m n:Nat) (ho:o.op=.binOp .sub ty x y cS:=by exact rfl) (hx:ev ρ x=some (.int .u8 (m:Nat)):=by exact rfl) (hy:ev ρ y=some (.int .u8 (n:Nat)):=by exact rfl) (h:n≤m∧m≤255:=by omega):bJ P ρ o (.int .u8 ((m-n:Nat):Int)):=PV ho hx hy h
theorem mq (m n:Nat) (ho:o.op=.binOp .sub ty x y cS:=by exact rfl) (hx:ev ρ x=some (.int .u16 (m:Nat)):=by exact rfl) (hy:ev ρ y=some (.int .u16 (n:Nat)):=by exact rfl) (h:n≤m∧m≤65535:=by omega):bJ P ρ o (.int .u16 ((m-n:Nat):Int)):=Jg ho hx hy h
theorem eX (m n:Nat) (ho:o.op=.binOp .sub ty x y cS:=by exact rfl) (hx:ev ρ x=some (.int .u32 (m:Nat)):=by exact rfl) (hy:ev ρ y=some (.int .u32 (n:Nat)):=by exact rfl) (h:n≤m∧m≤4294967295:=by omega):bJ P ρ o (.int .u32 ((m-n:Nat):Int)):=Jn ho hx hy h
theorem cU (m n:Nat) (ho:o.op=.binOp .sub ty x y cS:=by exact rfl) (hx:ev ρ x=some (.int .u64 (m:Nat)):=by exact rfl) (hy:ev ρ y=some (.int .u64 (n:Nat)):=by exact rfl) (h:n≤m∧m≤18446744073709551615:=by omega):bJ P ρ o (.int .u64 ((m-n:Nat):Int)):=Jy ho hx hy h
theorem LL (m n:Nat) (ho:o.op=.binOp .sub ty x y cS:=by exact rfl) (hx:ev ρ x=some (.int .i8 (m:Nat)):=by exact rfl) (hy:ev ρ y=some (.int .i8 (n:Nat)):=by exact rfl) (h:n≤m∧m≤127:=by omega):bJ P ρ o (.int .i8 ((m-n:Nat):Int)):=PN ho hx hy h
theorem rI (m n:Nat) (ho:o.op=.binOp .sub ty x y cS:=by exact rfl) (hx:ev ρ x=some (.int .i16 (m:Nat)):=by exact rfl) (hy:ev ρ y=some (.int .i16 (n:Nat)):=by exact rfl) (h:n≤m∧m≤32767:=by omega):bJ P ρ o (.int .i16 ((m-n:Nat):Int)):=I0 ho hx hy h
theorem uK (m n:Nat) (ho:o.op=.binOp .sub ty x y cS:=by exact rfl) (hx:ev ρ x=some (.int .i32 (m:Nat)):=by exact rfl) (hy:ev ρ y=some (.int .i32 (n:Nat)):=by exact rfl) (h:n≤m∧m≤2147483647:=by omega):bJ P ρ o (.int .i32 ((m-n:Nat):Int)):=I5 ho hx hy h
theorem a8 (m n:Nat) (ho:o.op=.binOp .sub ty x y cS:=by exact rfl) (hx:ev ρ x=some (.int .i64 (m:Nat)):=by exact rfl) (hy:ev ρ y=some (.int .i64 (n:Nat)):=by exact rfl) (h:n≤m∧m≤9223372036854775807:=by omega):bJ P ρ o (.int .i64 ((m-n:Nat):Int)):=I' ho hx hy h
theorem LM (m n:Nat) (ho:o.op=.binOp .sub ty x y cS:=by exact rfl) (hx:ev ρ x=some (.int .u8 (m:Nat)):=by exact rfl) (hy:ev ρ y=some (.int .u8 (n:Nat)):=by exact rfl) (h:n≤256:=by omega):bJ P ρ o (.int .u8 (((m+256-n)%256:Nat):Int)):=P1 ho hx hy h
theorem LN (m n:Nat) (ho:o.op=.binOp .sub ty x y cS:=by exact rfl) (hx:ev ρ x=some (.int .u32 (m:Nat)):=by exact rfl) (hy:ev ρ y=some (.int .u32 (n:Nat)):=by exact rfl) (h:n≤4294967296:=by omega):bJ P ρ o (.int .u32 (((m+4294967296-n)%4294967296:Nat):Int)):=Ju ho hx hy h
end
abbrev e_4:Nat × Kd:=(4,.e)
abbrev Re:Nat × Kd:=(6,.e)
abbrev e_7:Nat × Kd:=(7,.e)
abbrev e_8:Nat × Kd:=(8,.e)
abbrev lQ:Nat × Kd:=(9,.e)
abbrev Hy:Nat × Kd:=(10,.e)
abbrev Hz:Nat × Kd:=(11,.e)
abbrev Cs:Nat × Kd:=(12,.e)
abbrev EM:Nat × Kd:=(13,.e)
abbrev adZ:Nat × Kd:=(14,.e)
abbrev LO:Nat × Kd:=(15,.e)
abbrev Rf:Nat × Kd:=(16,.e)
abbrev Rg:Nat × Kd:=(18,.e)
abbrev akJ:Nat × Kd:=(20,.e)
abbrev ad0:Nat × Kd:=(21,.e)
abbrev akK:Nat × Kd:=(25,.e)
abbrev akL:Nat × Kd:=(26,.e)
abbrev r_0:Nat × Kd:=(0,.r)
abbrev r_1:Nat × Kd:=(1,.r)
abbrev r_2:Nat × Kd:=(2,.r)
abbrev iS:Nat × Kd:=(3,.r)
abbrev kg:Nat × Kd:=(4,.r)
abbrev Gu:Nat × Kd:=(5,.r)
abbrev xD:Nat × Kd:=(6,.r)
abbrev yd:Nat × Kd:=(7,.r)
abbrev qU:Nat × Kd:=(8,.r)
abbrev Df:Nat × Kd:=(9,.r)
abbrev yB:Nat × Kd:=(10,.r)
abbrev EN:Nat × Kd:=(11,.r)
abbrev LP:Nat × Kd:=(12,.r)
abbrev Ws:Nat × Kd:=(13,.r)
abbrev Rh:Nat × Kd:=(14,.r)
abbrev Ri:Nat × Kd:=(15,.r)
abbrev ad1:Nat × Kd:=(16,.r)
abbrev HA:Nat × Kd:=(17,.r)
abbrev LQ:Nat × Kd:=(18,.r)
abbrev ad2:Nat × Kd:=(19,.r)
abbrev ad3:Nat × Kd:=(23,.r)
abbrev akM:Nat × Kd:=(24,.r)
abbrev akN:Nat × Kd:=(30,.r)
abbrev akO:Nat × Kd:=(36,.r)
abbrev akP:Nat × Kd:=(42,.r)
abbrev di:Nat × Kd:=(0,.y)
abbrev df:Nat × Kd:=(1,.y)
abbrev dg:Nat × Kd:=(2,.y)
abbrev fP:Nat × Kd:=(3,.y)
abbrev fJ:Nat × Kd:=(4,.y)
abbrev dC:Nat × Kd:=(5,.y)
abbrev ee:Nat × Kd:=(6,.y)
abbrev dW:Nat × Kd:=(7,.y)
abbrev e7:Nat × Kd:=(8,.y)
abbrev gC:Nat × Kd:=(9,.y)
abbrev eS:Nat × Kd:=(10,.y)
abbrev gg:Nat × Kd:=(11,.y)
abbrev ir:Nat × Kd:=(12,.y)
abbrev iT:Nat × Kd:=(13,.y)
abbrev jx:Nat × Kd:=(14,.y)
abbrev nI:Nat × Kd:=(15,.y)
abbrev rJ:Nat × Kd:=(16,.y)
abbrev xE:Nat × Kd:=(17,.y)
abbrev EO:Nat × Kd:=(18,.y)
abbrev yC:Nat × Kd:=(19,.y)
abbrev yD:Nat × Kd:=(20,.y)
abbrev Ct:Nat × Kd:=(21,.y)
abbrev Cu:Nat × Kd:=(22,.y)
abbrev Wt:Nat × Kd:=(23,.y)
abbrev Rj:Nat × Kd:=(24,.y)
abbrev Rl:Nat × Kd:=(25,.y)
abbrev Wu:Nat × Kd:=(26,.y)
abbrev Wv:Nat × Kd:=(27,.y)
abbrev akQ:Nat × Kd:=(28,.y)
abbrev akR:Nat × Kd:=(29,.y)
abbrev akS:Nat × Kd:=(31,.y)
abbrev akT:Nat × Kd:=(32,.y)
abbrev akU:Nat × Kd:=(33,.y)
abbrev akV:Nat × Kd:=(34,.y)
abbrev akW:Nat × Kd:=(35,.y)
abbrev akX:Nat × Kd:=(37,.y)
abbrev akY:Nat × Kd:=(38,.y)
abbrev akZ:Nat × Kd:=(39,.y)
abbrev ak0:Nat × Kd:=(40,.y)
abbrev ak1:Nat × Kd:=(41,.y)
abbrev ak2:Nat × Kd:=(43,.y)
abbrev ak3:Nat × Kd:=(44,.y)
abbrev ak4:Nat × Kd:=(45,.y)
abbrev ak5:Nat × Kd:=(46,.y)
section
variable {K:Kx} {Q:Exit→Act→World→Prop} {ρ:bx} {l r:List aV} {id:Nat} {L:List Oper}
theorem Zg (E:Nat) (order:List (Nat × Kd)) (h:GP Tryz.prog K Q L order ρ l r) (hB:Fw L E order=true:=by kernel_rfl) (hQ:∀c a w (d:Nat) v,Q (.panic c) (a.put (some d) v) w→Q (.panic c) a w:=by exact fun _ _ _ _ _ h=>h):G Tryz.prog K Q (.region id L.toArray true) ρ l r:=G.akg E order mo hB hQ h
theorem Zh (E:Nat) (pl:Pl) (h:GT Tryz.prog K Q L pl ρ l r) (hB:FC L E pl=true:=by kernel_rfl) (hQ:∀c a w (d:Nat) v,Q (.panic c) (a.put (some d) v) w→Q (.panic c) a w:=by exact fun _ _ _ _ _ h=>h):G Tryz.prog K Q (.region id L.toArray true) ρ l r:=G.tree E pl mo hB hQ h
end
end Go.Proofs.YtaphmhiddngdoaaGreatDoor
namespace Go.Proofs.YtaphmhiddngdoaaGreatDoor
open Go Tryz
theorem LR:fieldOff0 prog 70 21 70=some 279:=by kernel_rfl
end Go.Proofs.YtaphmhiddngdoaaGreatDoor
