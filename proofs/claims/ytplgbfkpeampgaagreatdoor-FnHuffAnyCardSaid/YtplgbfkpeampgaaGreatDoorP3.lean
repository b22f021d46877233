/- Closed facts on the program's types, and short names for the walk's steps. -/
import Derived.Test.YtplgbfkpeampgaaGreatDoorProg
import Derived.Test.YtplgbfkpeampgaaGreatDoorP2
set_option maxRecDepth 100000
set_option linter.unusedVariables false
set_option linter.unusedSimpArgs false
namespace Go.Proofs.YtplgbfkpeampgaaGreatDoor
open Tryz
theorem mo:prog.follows .mixedOrders=true:=by kernel_rfl
theorem ae_109:arrElem prog 109=some (16,1):=by kernel_rfl
theorem ae_110:arrElem prog 110=some (4,16):=by kernel_rfl
theorem ae_122:arrElem prog 122=some (4,4):=by kernel_rfl
theorem ae_137:arrElem prog 137=some (2,1):=by kernel_rfl
theorem ae_151:arrElem prog 151=some (4,4):=by kernel_rfl
theorem ae_156:arrElem prog 156=some (4,256):=by kernel_rfl
theorem ae_23:arrElem prog 23=some (2,1):=by kernel_rfl
theorem ae_36:arrElem prog 36=some (256,1):=by kernel_rfl
theorem ae_89:arrElem prog 89=some (256,1):=by kernel_rfl
theorem ae_93:arrElem prog 93=some (256,1):=by kernel_rfl
theorem ag_101:aggB prog 101=some false:=by kernel_rfl
theorem ag_105:aggB prog 105=some false:=by kernel_rfl
theorem ag_115:aggB prog 115=some true:=by kernel_rfl
theorem ag_117:aggB prog 117=some false:=by kernel_rfl
theorem ag_135:aggB prog 135=some true:=by kernel_rfl
theorem ag_137:aggB prog 137=some true:=by kernel_rfl
theorem ag_173:aggB prog 173=some true:=by kernel_rfl
theorem ag_174:aggB prog 174=some false:=by kernel_rfl
theorem ag_180:aggB prog 180=some true:=by kernel_rfl
theorem ag_22:aggB prog 22=some false:=by kernel_rfl
theorem ag_25:aggB prog 25=some false:=by kernel_rfl
theorem ag_3:aggB prog 3=some false:=by kernel_rfl
theorem ag_36:aggB prog 36=some true:=by kernel_rfl
theorem ag_39:aggB prog 39=some false:=by kernel_rfl
theorem ag_4:aggB prog 4=some false:=by kernel_rfl
theorem ag_5:aggB prog 5=some false:=by kernel_rfl
theorem ag_71:aggB prog 71=some true:=by kernel_rfl
theorem ag_75:aggB prog 75=some false:=by kernel_rfl
theorem ag_78:aggB prog 78=some false:=by kernel_rfl
theorem ag_80:aggB prog 80=some false:=by kernel_rfl
theorem ag_81:aggB prog 81=some false:=by kernel_rfl
theorem ag_83:aggB prog 83=some true:=by kernel_rfl
theorem ag_84:aggB prog 84=some false:=by kernel_rfl
theorem ag_86:aggB prog 86=some false:=by kernel_rfl
theorem ag_89:aggB prog 89=some true:=by kernel_rfl
theorem ag_92:aggB prog 92=some false:=by kernel_rfl
theorem ag_95:aggB prog 95=some true:=by kernel_rfl
theorem ag_96:aggB prog 96=some false:=by kernel_rfl
theorem el_101:sliceE prog 101=some (78,[.int .u16 ((0:Nat):Int)],1,2):=by kernel_rfl
theorem el_105:sliceE prog 105=some (173,[.int .u16 ((0:Nat):Int),.int .u8 ((0:Nat):Int),.int .u8 ((0:Nat):Int)],3,4):=by kernel_rfl
theorem el_22:sliceE prog 22=some (5,[.int .u8 ((0:Nat):Int)],1,1):=by kernel_rfl
theorem el_25:sliceE prog 25=some (3,[.int .i64 ((0:Nat):Int)],1,8):=by kernel_rfl
theorem el_37:sliceE prog 37=some (4,[.bool false],1,1):=by kernel_rfl
theorem el_47:sliceE prog 47=some (25,[.slice none 0 0],1,24):=by kernel_rfl
theorem el_61:sliceE prog 61=some (135,[.int .i64 ((0:Nat):Int),.int .i64 ((0:Nat):Int),.int .i64 ((0:Nat):Int)],3,24):=by kernel_rfl
theorem el_68:sliceE prog 68=some (71,[.int .i64 ((0:Nat):Int),.int .i64 ((0:Nat):Int),.int .i64 ((0:Nat):Int)],3,24):=by kernel_rfl
theorem el_79:sliceE prog 79=some (113,[.int .u16 ((0:Nat):Int),.int .u8 ((0:Nat):Int)],2,4):=by kernel_rfl
theorem el_81:sliceE prog 81=some (115,[.int .u16 ((0:Nat):Int)],1,2):=by kernel_rfl
theorem el_84:sliceE prog 84=some (201,[.int .u64 ((0:Nat):Int)],1,8):=by kernel_rfl
theorem fo_104_0:fieldOff prog 104 0=some 0:=by kernel_rfl
theorem fo_104_1:fieldOff prog 104 1=some 1:=by kernel_rfl
theorem fo_107_1:fieldOff prog 107 1=some 256:=by kernel_rfl
theorem fo_107_10:fieldOff prog 107 10=some 528:=by kernel_rfl
theorem fo_107_11:fieldOff prog 107 11=some 529:=by kernel_rfl
theorem fo_107_12:fieldOff prog 107 12=some 530:=by kernel_rfl
theorem fo_107_13:fieldOff prog 107 13=some 531:=by kernel_rfl
theorem fo_107_14:fieldOff prog 107 14=some 532:=by kernel_rfl
theorem fo_107_15:fieldOff prog 107 15=some 533:=by kernel_rfl
theorem fo_107_2:fieldOff prog 107 2=some 512:=by kernel_rfl
theorem fo_107_3:fieldOff prog 107 3=some 514:=by kernel_rfl
theorem fo_107_5:fieldOff prog 107 5=some 521:=by kernel_rfl
theorem fo_107_6:fieldOff prog 107 6=some 524:=by kernel_rfl
theorem fo_107_8:fieldOff prog 107 8=some 526:=by kernel_rfl
theorem fo_107_9:fieldOff prog 107 9=some 527:=by kernel_rfl
theorem fo_115_0:fieldOff prog 115 0=some 0:=by kernel_rfl
theorem fo_119_0:fieldOff prog 119 0=some 0:=by kernel_rfl
theorem fo_119_1:fieldOff prog 119 1=some 1:=by kernel_rfl
theorem fo_119_2:fieldOff prog 119 2=some 2:=by kernel_rfl
theorem fo_121_0:fieldOff prog 121 0=some 0:=by kernel_rfl
theorem fo_121_1:fieldOff prog 121 1=some 1:=by kernel_rfl
theorem fo_121_2:fieldOff prog 121 2=some 2:=by kernel_rfl
theorem fo_121_3:fieldOff prog 121 3=some 3:=by kernel_rfl
theorem fo_135_0:fieldOff prog 135 0=some 0:=by kernel_rfl
theorem fo_135_1:fieldOff prog 135 1=some 1:=by kernel_rfl
theorem fo_135_2:fieldOff prog 135 2=some 2:=by kernel_rfl
theorem fo_141_0:fieldOff prog 141 0=some 0:=by kernel_rfl
theorem fo_141_1:fieldOff prog 141 1=some 1:=by kernel_rfl
theorem fo_150_0:fieldOff prog 150 0=some 0:=by kernel_rfl
theorem fo_150_1:fieldOff prog 150 1=some 1:=by kernel_rfl
theorem fo_150_2:fieldOff prog 150 2=some 2:=by kernel_rfl
theorem fo_150_3:fieldOff prog 150 3=some 3:=by kernel_rfl
theorem fo_173_0:fieldOff prog 173 0=some 0:=by kernel_rfl
theorem fo_173_1:fieldOff prog 173 1=some 1:=by kernel_rfl
theorem fo_173_2:fieldOff prog 173 2=some 2:=by kernel_rfl
theorem fo_177_0:fieldOff prog 177 0=some 0:=by kernel_rfl
theorem fo_177_1:fieldOff prog 177 1=some 1:=by kernel_rfl
theorem fo_177_2:fieldOff prog 177 2=some 2:=by kernel_rfl
theorem fo_67_0:fieldOff prog 67 0=some 0:=by kernel_rfl
theorem fo_67_1:fieldOff prog 67 1=some 1:=by kernel_rfl
theorem fo_67_2:fieldOff prog 67 2=some 2:=by kernel_rfl
theorem fo_67_3:fieldOff prog 67 3=some 3:=by kernel_rfl
theorem fo_71_0:fieldOff prog 71 0=some 0:=by kernel_rfl
theorem fo_71_1:fieldOff prog 71 1=some 1:=by kernel_rfl
theorem fo_71_2:fieldOff prog 71 2=some 2:=by kernel_rfl
theorem fo_83_0:fieldOff prog 83 0=some 0:=by kernel_rfl
theorem fo_91_1:fieldOff prog 91 1=some 256:=by kernel_rfl
theorem fo_91_10:fieldOff prog 91 10=some 265:=by kernel_rfl
theorem fo_91_12:fieldOff prog 91 12=some 267:=by kernel_rfl
theorem fo_91_13:fieldOff prog 91 13=some 268:=by kernel_rfl
theorem fo_91_14:fieldOff prog 91 14=some 269:=by kernel_rfl
theorem fo_91_15:fieldOff prog 91 15=some 270:=by kernel_rfl
theorem fo_91_17:fieldOff prog 91 17=some 272:=by kernel_rfl
theorem fo_91_18:fieldOff prog 91 18=some 273:=by kernel_rfl
theorem fo_91_2:fieldOff prog 91 2=some 257:=by kernel_rfl
theorem fo_91_20:fieldOff prog 91 20=some 278:=by kernel_rfl
theorem fo_91_22:fieldOff prog 91 22=some 279:=by kernel_rfl
theorem fo_91_3:fieldOff prog 91 3=some 258:=by kernel_rfl
theorem fo_91_4:fieldOff prog 91 4=some 259:=by kernel_rfl
theorem fo_91_5:fieldOff prog 91 5=some 260:=by kernel_rfl
theorem fo_91_6:fieldOff prog 91 6=some 261:=by kernel_rfl
theorem fo_91_7:fieldOff prog 91 7=some 262:=by kernel_rfl
theorem fo_95_0:fieldOff prog 95 0=some 0:=by kernel_rfl
theorem fo_95_1:fieldOff prog 95 1=some 1:=by kernel_rfl
theorem fo_98_0:fieldOff prog 98 0=some 0:=by kernel_rfl
theorem fo_98_1:fieldOff prog 98 1=some 1:=by kernel_rfl
theorem fo_98_2:fieldOff prog 98 2=some 2:=by kernel_rfl
theorem fo_98_3:fieldOff prog 98 3=some 3:=by kernel_rfl
theorem se_101:sliceElem prog 101=some 1:=by kernel_rfl
theorem se_105:sliceElem prog 105=some 3:=by kernel_rfl
theorem se_171:sliceElem prog 171=some 1:=by kernel_rfl
theorem se_22:sliceElem prog 22=some 1:=by kernel_rfl
theorem se_25:sliceElem prog 25=some 1:=by kernel_rfl
theorem se_37:sliceElem prog 37=some 1:=by kernel_rfl
theorem se_47:sliceElem prog 47=some 1:=by kernel_rfl
theorem se_61:sliceElem prog 61=some 3:=by kernel_rfl
theorem se_68:sliceElem prog 68=some 3:=by kernel_rfl
theorem se_80:sliceElem prog 80=some 2:=by kernel_rfl
theorem se_81:sliceElem prog 81=some 1:=by kernel_rfl
theorem se_84:sliceElem prog 84=some 1:=by kernel_rfl
theorem st_107:structB prog 107=some [(0,256),(256,256),(512,2),(514,4),(518,3),(521,3),(524,1),(525,1),(526,1),(527,1),(528,1),(529,1),(530,1),(531,1),(532,1),(533,1)]:=by kernel_rfl
theorem st_113:structB prog 113=some [(0,1),(1,1)]:=by kernel_rfl
theorem st_115:structB prog 115=some [(0,1)]:=by kernel_rfl
theorem st_119:structB prog 119=some [(0,1),(1,1),(2,1)]:=by kernel_rfl
theorem st_135:structB prog 135=some [(0,1),(1,1),(2,1)]:=by kernel_rfl
theorem st_141:structB prog 141=some [(0,1),(1,1)]:=by kernel_rfl
theorem st_67:structB prog 67=some [(0,1),(1,1),(2,1),(3,1)]:=by kernel_rfl
theorem st_71:structB prog 71=some [(0,1),(1,1),(2,1)]:=by kernel_rfl
theorem st_91:structB prog 91=some [(0,256),(256,1),(257,1),(258,1),(259,1),(260,1),(261,1),(262,1),(263,1),(264,1),(265,1),(266,1),(267,1),(268,1),(269,1),(270,1),(271,1),(272,1),(273,1),(274,4),(278,1),(279,0),(279,256)]:=by kernel_rfl
theorem sz_101:sizeB prog 101=some 1:=by kernel_rfl
theorem sz_105:sizeB prog 105=some 1:=by kernel_rfl
theorem sz_113:sizeB prog 113=some 2:=by kernel_rfl
theorem sz_115:sizeB prog 115=some 1:=by kernel_rfl
theorem sz_135:sizeB prog 135=some 3:=by kernel_rfl
theorem sz_137:sizeB prog 137=some 2:=by kernel_rfl
theorem sz_173:sizeB prog 173=some 3:=by kernel_rfl
theorem sz_174:sizeB prog 174=some 1:=by kernel_rfl
theorem sz_180:sizeB prog 180=some 0:=by kernel_rfl
theorem sz_22:sizeB prog 22=some 1:=by kernel_rfl
theorem sz_25:sizeB prog 25=some 1:=by kernel_rfl
theorem sz_3:sizeB prog 3=some 1:=by kernel_rfl
theorem sz_36:sizeB prog 36=some 256:=by kernel_rfl
theorem sz_39:sizeB prog 39=some 1:=by kernel_rfl
theorem sz_4:sizeB prog 4=some 1:=by kernel_rfl
theorem sz_5:sizeB prog 5=some 1:=by kernel_rfl
theorem sz_71:sizeB prog 71=some 3:=by kernel_rfl
theorem sz_75:sizeB prog 75=some 1:=by kernel_rfl
theorem sz_78:sizeB prog 78=some 1:=by kernel_rfl
theorem sz_80:sizeB prog 80=some 1:=by kernel_rfl
theorem sz_81:sizeB prog 81=some 1:=by kernel_rfl
theorem sz_83:sizeB prog 83=some 1:=by kernel_rfl
theorem sz_84:sizeB prog 84=some 1:=by kernel_rfl
theorem sz_86:sizeB prog 86=some 1:=by kernel_rfl
theorem sz_89:sizeB prog 89=some 256:=by kernel_rfl
theorem sz_92:sizeB prog 92=some 1:=by kernel_rfl
theorem sz_95:sizeB prog 95=some 2:=by kernel_rfl
theorem sz_96:sizeB prog 96=some 1:=by kernel_rfl
theorem un_101:prog.underlying 101=some (.slice 78):=by kernel_rfl
theorem un_105:prog.underlying 105=some (.slice 173):=by kernel_rfl
theorem un_124:prog.underlying 124=some (.pointer 156):=by kernel_rfl
theorem un_158:prog.underlying 158=some (.int .i8):=by kernel_rfl
theorem un_171:prog.underlying 171=some (.slice 92):=by kernel_rfl
theorem un_21:prog.underlying 21=some (.int .i32):=by kernel_rfl
theorem un_22:prog.underlying 22=some (.slice 5):=by kernel_rfl
theorem un_25:prog.underlying 25=some (.slice 3):=by kernel_rfl
theorem un_3:prog.underlying 3=some (.int .i64):=by kernel_rfl
theorem un_36:prog.underlying 36=some (.array 256 4):=by kernel_rfl
theorem un_39:prog.underlying 39=some (.int .u64):=by kernel_rfl
theorem un_4:prog.underlying 4=some (.bool):=by kernel_rfl
theorem un_5:prog.underlying 5=some (.int .u8):=by kernel_rfl
theorem un_50:prog.underlying 50=some (.pointer 91):=by kernel_rfl
theorem un_52:prog.underlying 52=some (.interface #[("Error",186)]):=by kernel_rfl
theorem un_61:prog.underlying 61=some (.slice 135):=by kernel_rfl
theorem un_68:prog.underlying 68=some (.slice 71):=by kernel_rfl
theorem un_75:prog.underlying 75=some (.int .u32):=by kernel_rfl
theorem un_78:prog.underlying 78=some (.int .u16):=by kernel_rfl
theorem un_80:prog.underlying 80=some (.slice 113):=by kernel_rfl
theorem un_81:prog.underlying 81=some (.slice 115):=by kernel_rfl
theorem un_84:prog.underlying 84=some (.slice 201):=by kernel_rfl
theorem un_86:prog.underlying 86=some (.pointer 107):=by kernel_rfl
theorem un_89:prog.underlying 89=some (.array 256 5):=by kernel_rfl
theorem un_9:prog.underlying 9=some (.string):=by kernel_rfl
theorem un_92:prog.underlying 92=some (.int .i16):=by kernel_rfl
theorem un_96:prog.underlying 96=some (.int .u64):=by kernel_rfl
theorem zc_107:zeroC prog 107=some ((nats .u32 (List.replicate 256 0))++(nats .i16 (List.replicate 256 0))++[.slice none 0 0,.int .i64 ((0:Nat):Int),.slice none 0 0,.int .u64 ((0:Nat):Int),.int .u64 ((0:Nat):Int),.int .u8 ((0:Nat):Int),.int .u64 ((0:Nat):Int),.int .u8 ((0:Nat):Int),.slice none 0 0,.slice none 0 0,.slice none 0 0,.slice none 0 0,.slice none 0 0,.int .i64 ((0:Nat):Int),.slice none 0 0,.int .i64 ((0:Nat):Int),.int .u16 ((0:Nat):Int),.int .u8 ((0:Nat):Int),.bool false,.bool false,.int .u8 ((0:Nat):Int),.int .u8 ((0:Nat):Int)]):=by kernel_rfl
theorem zc_109:zeroC prog 109=some ((nats .u32 (List.replicate 16 0))):=by kernel_rfl
theorem zc_110:zeroC prog 110=some ((nats .u32 (List.replicate 64 0))):=by kernel_rfl
theorem zc_113:zeroC prog 113=some ([.int .u16 ((0:Nat):Int),.int .u8 ((0:Nat):Int)]):=by kernel_rfl
theorem zc_115:zeroC prog 115=some ([.int .u16 ((0:Nat):Int)]):=by kernel_rfl
theorem zc_119:zeroC prog 119=some ([.slice none 0 0,.int .u8 ((0:Nat):Int),(Value.pointer none)]):=by kernel_rfl
theorem zc_121:zeroC prog 121=some ([.slice none 0 0,.int .u64 ((0:Nat):Int),.int .u64 ((0:Nat):Int),.int .u8 ((0:Nat):Int)]):=by kernel_rfl
theorem zc_122:zeroC prog 122=some ([.slice none 0 0,.int .u64 ((0:Nat):Int),.int .u64 ((0:Nat):Int),.int .u8 ((0:Nat):Int),.slice none 0 0,.int .u64 ((0:Nat):Int),.int .u64 ((0:Nat):Int),.int .u8 ((0:Nat):Int),.slice none 0 0,.int .u64 ((0:Nat):Int),.int .u64 ((0:Nat):Int),.int .u8 ((0:Nat):Int),.slice none 0 0,.int .u64 ((0:Nat):Int),.int .u64 ((0:Nat):Int),.int .u8 ((0:Nat):Int)]):=by kernel_rfl
theorem zc_135:zeroC prog 135=some ([.int .i64 ((0:Nat):Int),.int .i64 ((0:Nat):Int),.int .i64 ((0:Nat):Int)]):=by kernel_rfl
theorem zc_137:zeroC prog 137=some ([.int .i64 ((0:Nat):Int),.int .i64 ((0:Nat):Int)]):=by kernel_rfl
theorem zc_141:zeroC prog 141=some ([.slice none 0 0,.int .i64 ((0:Nat):Int)]):=by kernel_rfl
theorem zc_150:zeroC prog 150=some ([.slice none 0 0,.int .u64 ((0:Nat):Int),.int .u64 ((0:Nat):Int),.int .u8 ((0:Nat):Int)]):=by kernel_rfl
theorem zc_151:zeroC prog 151=some ([.slice none 0 0,.int .u64 ((0:Nat):Int),.int .u64 ((0:Nat):Int),.int .u8 ((0:Nat):Int),.slice none 0 0,.int .u64 ((0:Nat):Int),.int .u64 ((0:Nat):Int),.int .u8 ((0:Nat):Int),.slice none 0 0,.int .u64 ((0:Nat):Int),.int .u64 ((0:Nat):Int),.int .u8 ((0:Nat):Int),.slice none 0 0,.int .u64 ((0:Nat):Int),.int .u64 ((0:Nat):Int),.int .u8 ((0:Nat):Int)]):=by kernel_rfl
theorem zc_156:zeroC prog 156=some ((nats .u8 (List.replicate 1024 0))):=by kernel_rfl
theorem zc_173:zeroC prog 173=some ([.int .u16 ((0:Nat):Int),.int .u8 ((0:Nat):Int),.int .u8 ((0:Nat):Int)]):=by kernel_rfl
theorem zc_177:zeroC prog 177=some ([.int .u16 ((0:Nat):Int),(Value.pointer none),.slice none 0 0]):=by kernel_rfl
theorem zc_36:zeroC prog 36=some ((List.replicate 256 (.bool false))):=by kernel_rfl
theorem zc_67:zeroC prog 67=some ([.slice none 0 0,.int .i64 ((0:Nat):Int),.bool false,.slice none 0 0]):=by kernel_rfl
theorem zc_71:zeroC prog 71=some ([.int .i64 ((0:Nat):Int),.int .i64 ((0:Nat):Int),.int .i64 ((0:Nat):Int)]):=by kernel_rfl
theorem zc_91:zeroC prog 91=some ((nats .u32 (List.replicate 256 0))++[.slice none 0 0,.slice none 0 0,.slice none 0 0,.int .i64 ((0:Nat):Int),.int .i64 ((0:Nat):Int),.int .u8 ((0:Nat):Int),.int .u8 ((0:Nat):Int),.int .u8 ((0:Nat):Int),.int .u8 ((0:Nat):Int),.int .u16 ((0:Nat):Int),.int .i64 ((0:Nat):Int),.bool false,.int .u8 ((0:Nat):Int),.int .u8 ((0:Nat):Int),.slice none 0 0,.slice none 0 0,.slice none 0 0,.slice none 0 0,.slice none 0 0,.slice none 0 0,.slice none 0 0,.slice none 0 0,(Value.pointer none)]++(nats .u8 (List.replicate 256 0))):=by kernel_rfl
end Go.Proofs.YtplgbfkpeampgaaGreatDoor
namespace Go.Proofs.YtplgbfkpeampgaaGreatDoor
open Go
def opV (ρ:Fram):Op→Option Value
  | .move x=>ev ρ x
  | .assign x=>ev ρ x
  | .nilCheck x=>match ev ρ x with
    |some (.pointer (some p))=>some (.pointer (some p))
    |_=>none
  | .extract x i=>match ev ρ x with
    |some (.tuple vs)=>vs[i]?
    |_=>none
  | .pick c x y=>match ev ρ c with
    |some (.bool true)=>ev ρ x
    |some (.bool false)=>ev ρ y
    |_=>none
  |_=>none
theorem opV_ok {P:Program} {ρ:Fram} {o:Oper} {v:Value} (h:opV ρ o.op=some v):OpY P ρ o v:=by
  cases ho:o.op with
  |move x=>rw[ho] at h;exact y_mv ho h
  |assign x=>rw[ho] at h;exact y_as ho h
  |nilCheck x=>
    rw[ho] at h
    simp only[opV] at h
    split at h
    · rename_i p hp
      rw[←Option.some.inj h];exact y_nc ho hp
    · cases h
  |extract x i=>
    rw[ho] at h
    simp only[opV] at h
    split at h
    · rename_i vs hv;exact y_ex ho hv h
    · cases h
  |pick c x y=>
    rw[ho] at h
    simp only[opV] at h
    split at h
    · rename_i hc;exact y_pickT ho hc h
    · rename_i hc;exact y_pickF ho hc h
    · cases h
  |_=>rw[ho] at h;simp[opV] at h
def dstB (L:List Oper) (ρ:Fram) (n:Nat) (o:Oper):Option Nat:=match want L ρ o with
  |some true=>match o.dst with
    |some d=>bif Nat.blt d n then some d else none
    |none=>none
  |_=>none
def stepV (L:List Oper) (ρ:Fram) (n:Nat) (o:Oper):Option (Nat × Value):=match o.dst with
  |some d=>match Nat.blt d n with
    |true=>match want L ρ o with
      |some true=>match opV ρ o.op with
        |some v=>some (d,v)
        |none=>none
      |some false=>some (d,undef)
      |none=>none
    |false=>none
  |none=>none
def runV (L:List Oper) (n:Nat):Nat→List Oper→Fram→Option (List Oper × Fram)
  |0,rest,ρ=>some (rest,ρ)
  |k+1,o::rest,ρ=>match stepV L ρ n o with
    |some p=>runV L n k rest (p::ρ)
    |none=>none
  |_+1,[],_=>none
def nthO (i:Nat) (L:List Oper):Oper:=match nth i L with
  |some o=>o
  |none=>default
def dstP (L:List Oper) (ρ:Fram) (n i:Nat):Option Nat:=match nth i L with
  |some o=>dstB L ρ n o
  |none=>none
def stepP (L:List Oper) (ρ:Fram) (n i:Nat):Option (Nat × Value):=match nth i L with
  |some o=>stepV L ρ n o
  |none=>none
def runP (L:List Oper) (n:Nat):Nat→List (Nat × Kd)→Fram→Option (List (Nat × Kd) × Fram)
  |0,os,ρ=>some (os,ρ)
  |k+1,(i,.y)::os,ρ=>match stepP L ρ n i with
    |some p=>runP L n k os (p::ρ)
    |none=>none
  |_+1,_,_=>none
def runT (L:List Oper) (n:Nat):Nat→Pl→Fram→Option (Pl × Fram)
  |0,os,ρ=>some (os,ρ)
  |k+1,.st i false os,ρ=>match stepP L ρ n i with
    |some p=>runT L n k os (p::ρ)
    |none=>none
  |_+1,_,_=>none
def adv (L:List Oper) (n:Nat):List Oper→Fram→Option (List Oper × Fram)
  |[],ρ=>some ([],ρ)
  |o::rest,ρ=>match stepV L ρ n o with
    |some p=>adv L n rest (p::ρ)
    |none=>some (o::rest,ρ)
def advY (L:List Oper) (n:Nat) (o:Oper) (v:Value) (rest:List Oper) (ρ:Fram):Option (List Oper × Fram):=match dstB L ρ n o with
  |some d=>adv L n rest ((d,v)::ρ)
  |none=>none
def advP (L:List Oper) (n:Nat):List (Nat × Kd)→Fram→Option (List (Nat × Kd) × Fram)
  |[],ρ=>some ([],ρ)
  |(i,.y)::os,ρ=>match stepP L ρ n i with
    |some p=>advP L n os (p::ρ)
    |none=>some ((i,.y)::os,ρ)
  |(i,.r)::os,ρ=>some ((i,.r)::os,ρ)
  |(i,.e)::os,ρ=>some ((i,.e)::os,ρ)
def advPY (L:List Oper) (n i:Nat) (v:Value) (os:List (Nat × Kd)) (ρ:Fram):Option (List (Nat × Kd) × Fram):=match dstP L ρ n i with
  |some d=>advP L n os ((d,v)::ρ)
  |none=>none
def advT (L:List Oper) (n:Nat):Pl→Fram→Option (Pl × Fram)
  | .st i false os,ρ=>match stepP L ρ n i with
    |some p=>advT L n os (p::ρ)
    |none=>some (.st i false os,ρ)
  | .st i true os,ρ=>some (.st i true os,ρ)
  | .nil,ρ=>some (.nil,ρ)
  | .stop,ρ=>some (.stop,ρ)
  | .ef i x y,ρ=>some (.ef i x y,ρ)
def advTY (L:List Oper) (n i:Nat) (v:Value) (os:Pl) (ρ:Fram):Option (Pl × Fram):=match dstP L ρ n i with
  |some d=>advT L n os ((d,v)::ρ)
  |none=>none
theorem dstB_ok {L:List Oper} {ρ:Fram} {n d:Nat} {o:Oper} (h:dstB L ρ n o=some d):want L ρ o=some true∧o.dst=some d∧Nat.blt d n=true:=by
  unfold dstB at h
  split at h
  · rename_i hw
    split at h
    · rename_i d' hd
      cases hb:Nat.blt d' n with
      |true=>rw[hb] at h;simp only[cond_true,Option.some.injEq] at h;subst h;exact⟨hw,hd,hb⟩
      |false=>rw[hb] at h;simp at h
    · cases h
  · cases h
theorem stepV_ok {P:Program} {L:List Oper} {ρ:Fram} {n:Nat} {o:Oper} {p:Nat × Value} (h:stepV L ρ n o=some p):o.dst=some p.1∧Nat.blt p.1 n=true∧((want L ρ o=some true∧OpY P ρ o p.2)∨(want L ρ o=some false∧p.2=undef)):=by
  unfold stepV at h
  split at h
  · rename_i d hd
    split at h
    · rename_i hb
      split at h
      · rename_i hw
        split at h
        · rename_i v hv
          rw[←Option.some.inj h];exact⟨hd,hb,.inl ⟨hw,opV_ok hv⟩⟩
        · cases h
      · rename_i hw
        rw[←Option.some.inj h];exact⟨hd,hb,.inr ⟨hw,rfl⟩⟩
      · cases h
    · cases h
  · cases h
theorem nthO_ok {i:Nat} {L:List Oper} {o:Oper} (h:nth i L=some o):nthO i L=o:=by unfold nthO;rw[h]
theorem dstP_ok {L:List Oper} {ρ:Fram} {n d i:Nat} (h:dstP L ρ n i=some d):nth i L=some (nthO i L)∧dstB L ρ n (nthO i L)=some d:=by
  unfold dstP at h
  split at h
  · rename_i o ho;rw[nthO_ok ho];exact⟨ho,h⟩
  · cases h
theorem stepP_ok {L:List Oper} {ρ:Fram} {n i:Nat} {p:Nat × Value} (h:stepP L ρ n i=some p):nth i L=some (nthO i L)∧stepV L ρ n (nthO i L)=some p:=by
  unfold stepP at h
  split at h
  · rename_i o ho;rw[nthO_ok ho];exact⟨ho,h⟩
  · cases h
theorem Sub.ofMap {ρ:Fram}:∀{ρ':Fram},ρ'.map (fun p=>look p.1 ρ)=ρ'.map (fun p=>some p.2)→Sub ρ' ρ
  |[],_=>trivial
  |p::q,h=>by
    rw[List.map_cons,List.map_cons] at h
    exact⟨(List.cons.inj h).1,Sub.ofMap (List.cons.inj h).2⟩
section
variable {P:Program} {K:Kx} {Q:Exit→Act→World→Prop} {ρ ρ':Fram} {l r:List Seg} {L rest rest':List Oper} {o:Oper} {d i:Nat} {v:Value}
theorem Za (k:Nat) (g:GL P K Q L rest' ρ' l r) (h:runV L K.n k rest ρ=some (rest',ρ'):=by exact rfl):GL P K Q L rest ρ l r:=by
  induction k generalizing rest ρ with
  |zero=>
    simp only[runV,Option.some.injEq,Prod.mk.injEq] at h
    obtain⟨rfl,rfl⟩:=h;exact g
  |succ k ih=>
    cases rest with
    |nil=>simp[runV] at h
    |cons o rest=>
      simp only[runV] at h
      split at h
      · rename_i p hp
        obtain⟨h1,h2,h3⟩:=stepV_ok (P:=P) hp
        have g':=ih h
        rcases h3 with ⟨h4,h5⟩|⟨h4,h5⟩
        · exact GL.y h5 h4 h1 h2 g'
        · refine GL.skip h4 h1 h2 ?_
          rw[←h5];exact g'
      · cases h
theorem Zr (h:OpR P ρ l r o v) (g:GL P K Q L rest ((d,v)::ρ) l r) (hs:dstB L ρ K.n o=some d:=by exact rfl):GL P K Q L (o::rest) ρ l r:=
  GL.rd h (dstB_ok hs).1 (dstB_ok hs).2.1 (dstB_ok hs).2.2 g
theorem Zy (h:OpY P ρ o v) (g:GL P K Q L rest ((d,v)::ρ) l r) (hs:dstB L ρ K.n o=some d:=by exact rfl):GL P K Q L (o::rest) ρ l r:=Zr h.toR g hs
theorem Zs {X:Fram} {Y:List Seg} (h:Eff P K ρ l r o (fun ρ' l'=>ρ'=X∧l'=Y)) (g:GL P K Q L rest X Y r) (hw:want L ρ o=some true:=by exact rfl):GL P K Q L (o::rest) ρ l r:=
  GL.eff h hw fun _ _ ⟨h1,h2⟩=>by subst h1;subst h2;exact g
theorem Ze {X:Nat→Fram} {Y:Nat→List Seg} (h:Eff P K ρ l r o (fun ρ' l'=>∃b,ρ'=X b∧l'=Y b)) (g:∀b,GL P K Q L rest (X b) (Y b) r) (hw:want L ρ o=some true:=by exact rfl):GL P K Q L (o::rest) ρ l r:=
  GL.eff h hw fun _ _ ⟨b,h1,h2⟩=>by subst h1;subst h2;exact g b
theorem Ya (g:GL P K Q L rest' ρ' l r) (h:adv L K.n rest ρ=some (rest',ρ'):=by exact rfl):GL P K Q L rest ρ l r:=by
  induction rest generalizing ρ with
  |nil=>simp only[adv,Option.some.injEq,Prod.mk.injEq] at h;obtain⟨rfl,rfl⟩:=h;exact g
  |cons o rest ih=>
    simp only[adv] at h
    split at h
    · rename_i p hp
      obtain⟨h1,h2,h3⟩:=stepV_ok (P:=P) hp
      have g':=ih h
      rcases h3 with ⟨h4,h5⟩|⟨h4,h5⟩
      · exact GL.y h5 h4 h1 h2 g'
      · refine GL.skip h4 h1 h2 ?_
        rw[←h5];exact g'
    · simp only[Option.some.injEq,Prod.mk.injEq] at h;obtain⟨rfl,rfl⟩:=h;exact g
theorem Yr (h:OpR P ρ l r o v) (g:GL P K Q L rest' ρ' l r) (hs:advY L K.n o v rest ρ=some (rest',ρ'):=by exact rfl):GL P K Q L (o::rest) ρ l r:=by
  unfold advY at hs
  split at hs
  · rename_i d hd;exact Zr h (Ya g hs) hd
  · cases hs
theorem Yy (h:OpY P ρ o v) (g:GL P K Q L rest' ρ' l r) (hs:advY L K.n o v rest ρ=some (rest',ρ'):=by exact rfl):GL P K Q L (o::rest) ρ l r:=Yr h.toR g hs
theorem Ys {X:Fram} {Y:List Seg} (h:Eff P K ρ l r o (fun ρ' l'=>ρ'=X∧l'=Y)) (g:GL P K Q L rest' ρ' Y r) (hw:want L ρ o=some true:=by exact rfl) (hs:adv L K.n rest X=some (rest',ρ'):=by exact rfl):GL P K Q L (o::rest) ρ l r:=Zs h (Ya g hs) hw
variable {os os':List (Nat × Kd)}
theorem Zpa (k:Nat) (g:GP P K Q L os' ρ' l r) (h:runP L K.n k os ρ=some (os',ρ'):=by exact rfl):GP P K Q L os ρ l r:=by
  induction k generalizing os ρ with
  |zero=>
    simp only[runP,Option.some.injEq,Prod.mk.injEq] at h
    obtain⟨rfl,rfl⟩:=h;exact g
  |succ k ih=>
    match os,h with
    |(i,.y)::os,h=>
      simp only[runP] at h
      split at h
      · rename_i p hp
        obtain⟨h0,h0'⟩:=stepP_ok hp
        obtain⟨h1,h2,h3⟩:=stepV_ok (P:=P) h0'
        have g':=ih h
        rcases h3 with ⟨h4,h5⟩|⟨h4,h5⟩
        · exact GP.y h5 h0 h4 h1 h2 g'
        · refine GP.skip h0 h4 h1 h2 ?_
          rw[←h5];exact g'
      · cases h
    |[],h=>simp[runP] at h
    |(i,.r)::os,h=>simp[runP] at h
    |(i,.e)::os,h=>simp[runP] at h
theorem Zpy (h:OpY P ρ (nthO i L) v) (g:GP P K Q L os ((d,v)::ρ) l r) (hs:dstP L ρ K.n i=some d:=by exact rfl):GP P K Q L ((i,.y)::os) ρ l r:=by
  obtain⟨h0,h1⟩:=dstP_ok hs
  obtain⟨h2,h3,h4⟩:=dstB_ok h1
  exact GP.y h h0 h2 h3 h4 g
theorem Zpr (h:OpR P ρ l r (nthO i L) v) (g:GP P K Q L os ((d,v)::ρ) l r) (hs:dstP L ρ K.n i=some d:=by exact rfl):GP P K Q L ((i,.r)::os) ρ l r:=by
  obtain⟨h0,h1⟩:=dstP_ok hs
  obtain⟨h2,h3,h4⟩:=dstB_ok h1
  exact GP.rd h h0 h2 h3 h4 g
theorem Ypa (g:GP P K Q L os' ρ' l r) (h:advP L K.n os ρ=some (os',ρ'):=by exact rfl):GP P K Q L os ρ l r:=by
  induction os generalizing ρ with
  |nil=>simp only[advP,Option.some.injEq,Prod.mk.injEq] at h;obtain⟨rfl,rfl⟩:=h;exact g
  |cons o os ih=>
    obtain⟨i,k⟩:=o
    cases k with
    |y=>
      simp only[advP] at h
      split at h
      · rename_i p hp
        obtain⟨h0,h0'⟩:=stepP_ok hp
        obtain⟨h1,h2,h3⟩:=stepV_ok (P:=P) h0'
        have g':=ih h
        rcases h3 with ⟨h4,h5⟩|⟨h4,h5⟩
        · exact GP.y h5 h0 h4 h1 h2 g'
        · refine GP.skip h0 h4 h1 h2 ?_
          rw[←h5];exact g'
      · simp only[Option.some.injEq,Prod.mk.injEq] at h;obtain⟨rfl,rfl⟩:=h;exact g
    |r=>simp only[advP,Option.some.injEq,Prod.mk.injEq] at h;obtain⟨rfl,rfl⟩:=h;exact g
    |e=>simp only[advP,Option.some.injEq,Prod.mk.injEq] at h;obtain⟨rfl,rfl⟩:=h;exact g
theorem Ypy (h:OpY P ρ (nthO i L) v) (g:GP P K Q L os' ρ' l r) (hs:advPY L K.n i v os ρ=some (os',ρ'):=by exact rfl):GP P K Q L ((i,.y)::os) ρ l r:=by
  unfold advPY at hs
  split at hs
  · rename_i d hd;exact Zpy h (Ypa g hs) hd
  · cases hs
theorem Ypr (h:OpR P ρ l r (nthO i L) v) (g:GP P K Q L os' ρ' l r) (hs:advPY L K.n i v os ρ=some (os',ρ'):=by exact rfl):GP P K Q L ((i,.r)::os) ρ l r:=by
  unfold advPY at hs
  split at hs
  · rename_i d hd;exact Zpr h (Ypa g hs) hd
  · cases hs
def wantP (L:List Oper) (ρ:Fram) (i:Nat):Option Bool:=match nth i L with
  |some o=>want L ρ o
  |none=>none
theorem wantP_ok {L:List Oper} {ρ:Fram} {i:Nat} {b:Bool} (h:wantP L ρ i=some b):nth i L=some (nthO i L)∧want L ρ (nthO i L)=some b:=by
  unfold wantP at h
  split at h
  · rename_i o ho;rw[nthO_ok ho];exact⟨ho,h⟩
  · cases h
theorem Zps {X:Fram} {Y:List Seg} (h:Eff P K ρ l r (nthO i L) (fun ρ' l'=>ρ'=X∧l'=Y)) (g:GP P K Q L os X Y r) (hw:wantP L ρ i=some true:=by exact rfl):GP P K Q L ((i,.e)::os) ρ l r:=
  GP.eff h (wantP_ok hw).1 (wantP_ok hw).2 fun _ _ ⟨h1,h2⟩=>by subst h1;subst h2;exact g
theorem Zpe {X:Nat→Fram} {Y:Nat→List Seg} (h:Eff P K ρ l r (nthO i L) (fun ρ' l'=>∃b,ρ'=X b∧l'=Y b)) (g:∀b,GP P K Q L os (X b) (Y b) r) (hw:wantP L ρ i=some true:=by exact rfl):GP P K Q L ((i,.e)::os) ρ l r:=
  GP.eff h (wantP_ok hw).1 (wantP_ok hw).2 fun _ _ ⟨b,h1,h2⟩=>by subst h1;subst h2;exact g b
theorem Yps {X:Fram} {Y:List Seg} (h:Eff P K ρ l r (nthO i L) (fun ρ' l'=>ρ'=X∧l'=Y)) (g:GP P K Q L os' ρ' Y r) (hw:wantP L ρ i=some true:=by exact rfl) (hs:advP L K.n os X=some (os',ρ'):=by exact rfl):GP P K Q L ((i,.e)::os) ρ l r:=Zps h (Ypa g hs) hw
variable {pl pl' alt:Pl}
theorem Zta (k:Nat) (g:GT P K Q L pl' ρ' l r) (h:runT L K.n k pl ρ=some (pl',ρ'):=by exact rfl):GT P K Q L pl ρ l r:=by
  induction k generalizing pl ρ with
  |zero=>
    simp only[runT,Option.some.injEq,Prod.mk.injEq] at h
    obtain⟨rfl,rfl⟩:=h;exact g
  |succ k ih=>
    match pl,h with
    | .st i false os,h=>
      simp only[runT] at h
      split at h
      · rename_i p hp
        obtain⟨h0,h0'⟩:=stepP_ok hp
        obtain⟨h1,h2,h3⟩:=stepV_ok (P:=P) h0'
        have g':=ih h
        rcases h3 with ⟨h4,h5⟩|⟨h4,h5⟩
        · exact GT.y h5 h0 h4 h1 h2 g'
        · refine GT.skip h0 h4 h1 h2 ?_
          rw[←h5];exact g'
      · cases h
    | .st i true os,h=>simp[runT] at h
    | .nil,h=>simp[runT] at h
    | .stop,h=>simp[runT] at h
    | .ef i a b,h=>simp[runT] at h
theorem Zty (h:OpY P ρ (nthO i L) v) (g:GT P K Q L pl ((d,v)::ρ) l r) (hs:dstP L ρ K.n i=some d:=by exact rfl):GT P K Q L (.st i false pl) ρ l r:=by
  obtain⟨h0,h1⟩:=dstP_ok hs
  obtain⟨h2,h3,h4⟩:=dstB_ok h1
  exact GT.y h h0 h2 h3 h4 g
theorem Yta (g:GT P K Q L pl' ρ' l r) (h:advT L K.n pl ρ=some (pl',ρ'):=by exact rfl):GT P K Q L pl ρ l r:=by
  induction pl generalizing ρ with
  |st i k os ih=>
    cases k with
    |false=>
      simp only[advT] at h
      split at h
      · rename_i p hp
        obtain⟨h0,h0'⟩:=stepP_ok hp
        obtain⟨h1,h2,h3⟩:=stepV_ok (P:=P) h0'
        have g':=ih h
        rcases h3 with ⟨h4,h5⟩|⟨h4,h5⟩
        · exact GT.y h5 h0 h4 h1 h2 g'
        · refine GT.skip h0 h4 h1 h2 ?_
          rw[←h5];exact g'
      · simp only[Option.some.injEq,Prod.mk.injEq] at h;obtain⟨rfl,rfl⟩:=h;exact g
    |true=>simp only[advT,Option.some.injEq,Prod.mk.injEq] at h;obtain⟨rfl,rfl⟩:=h;exact g
  |_=>simp only[advT,Option.some.injEq,Prod.mk.injEq] at h;obtain⟨rfl,rfl⟩:=h;exact g
theorem Yty (h:OpY P ρ (nthO i L) v) (g:GT P K Q L pl' ρ' l r) (hs:advTY L K.n i v pl ρ=some (pl',ρ'):=by exact rfl):GT P K Q L (.st i false pl) ρ l r:=by
  unfold advTY at hs
  split at hs
  · rename_i d hd;exact Zty h (Yta g hs) hd
  · cases hs
theorem Ztx (h:OpR P ρ l r (nthO i L) v) (g:GT P K Q L pl ((d,v)::ρ) l r) (a:GT P K Q L alt ρ l r) (hs:dstP L ρ K.n i=some d:=by exact rfl):GT P K Q L (.ef i pl alt) ρ l r:=by
  obtain⟨h0,h1⟩:=dstP_ok hs
  obtain⟨h2,h3,h4⟩:=dstB_ok h1
  exact GT.erd h h0 h2 h3 h4 g a
theorem Zts {X:Fram} {Y:List Seg} (h:Eff P K ρ l r (nthO i L) (fun ρ' l'=>ρ'=X∧l'=Y)) (g:GT P K Q L pl X Y r) (a:GT P K Q L alt ρ l r) (hw:wantP L ρ i=some true:=by exact rfl):GT P K Q L (.ef i pl alt) ρ l r:=
  GT.eff h (wantP_ok hw).1 (wantP_ok hw).2 (fun _ _ ⟨h1,h2⟩=>by subst h1;subst h2;exact g) a
theorem Ytx (h:OpR P ρ l r (nthO i L) v) (g:GT P K Q L pl' ρ' l r) (a:GT P K Q L alt ρ l r) (hs:advTY L K.n i v pl ρ=some (pl',ρ'):=by exact rfl):GT P K Q L (.ef i pl alt) ρ l r:=by
  unfold advTY at hs
  split at hs
  · rename_i d hd;exact Ztx h (Yta g hs) a hd
  · cases hs
theorem Yts {X:Fram} {Y:List Seg} (h:Eff P K ρ l r (nthO i L) (fun ρ' l'=>ρ'=X∧l'=Y)) (g:GT P K Q L pl' ρ' Y r) (a:GT P K Q L alt ρ l r) (hw:wantP L ρ i=some true:=by exact rfl) (hs:advT L K.n pl X=some (pl',ρ'):=by exact rfl):GT P K Q L (.ef i pl alt) ρ l r:=Zts h (Yta g hs) a hw
theorem Ytu (h:OpR P ρ l r (nthO i L) v) (g:GT P K Q L pl' ρ' l r) (hs:advTY L K.n i v pl ρ=some (pl',ρ'):=by exact rfl):GT P K Q L (.ef i pl .stop) ρ l r:=Ytx h g GT.stop hs
theorem Ytt {X:Fram} {Y:List Seg} (h:Eff P K ρ l r (nthO i L) (fun ρ' l'=>ρ'=X∧l'=Y)) (g:GT P K Q L pl' ρ' Y r) (hw:wantP L ρ i=some true:=by exact rfl) (hs:advT L K.n pl X=some (pl',ρ'):=by exact rfl):GT P K Q L (.ef i pl .stop) ρ l r:=Yts h g GT.stop hw hs
theorem Xtu (h:OpR P ρ l r (nthO i L) v) (g:GT P K Q L pl ((d,v)::ρ) l r) (hs:dstP L ρ K.n i=some d:=by exact rfl):GT P K Q L (.ef i pl .stop) ρ l r:=Ztx h g GT.stop hs
theorem Xtt {X:Fram} {Y:List Seg} (h:Eff P K ρ l r (nthO i L) (fun ρ' l'=>ρ'=X∧l'=Y)) (g:GT P K Q L pl X Y r) (hw:wantP L ρ i=some true:=by exact rfl):GT P K Q L (.ef i pl .stop) ρ l r:=Zts h g GT.stop hw
end
section
variable {P:Program} {K:Kx} {Q:Exit→Act→World→Prop} {ρ ρ0:Fram} {l r:List Seg} {L:List Oper} {x y z:Code} {id:Nat}
theorem Zn (h:G P K Q y ρ l r):GL P K (Exit.then (y.wp P Q) Q) L [] ρ l r:=GL.nil (GQ.thenN h)
theorem Z1 {id:Nat} {L2:List Oper} (h:GL P K Q L2 L2 ρ l r):GL P K (Exit.then ((Code.region id L2.toArray false).wp P Q) Q) L [] ρ l r:=Zn (G.region h)
theorem Z2 {id:Nat} {L2:List Oper} (h:GL P K (Exit.then (y.wp P Q) Q) L2 L2 ρ l r):GL P K (Exit.then ((Code.seq (.region id L2.toArray false) y).wp P Q) Q) L [] ρ l r:=Zn (G.seq (G.region h))
theorem Z3 {id:Nat} {L2:List Oper} (h:GL P K (Exit.then (y.wp P (Exit.then (z.wp P Q) Q)) (Exit.then (z.wp P Q) Q)) L2 L2 ρ l r):GL P K (Exit.then ((Code.seq (.seq (.region id L2.toArray false) y) z).wp P Q) Q) L [] ρ l r:=Zn (G.seq (G.seq (G.region h)))
theorem Z4 (h:G P K (Exit.then (y.wp P Q) Q) x ρ l r):GL P K (Exit.then ((Code.seq x y).wp P Q) Q) L [] ρ l r:=Zn (G.seq h)
theorem Z5 {id:Nat} {L2:List Oper} (h:GL P K (Exit.then (y.wp P Q) Q) L2 L2 ρ l r):G P K Q (.seq (.region id L2.toArray false) y) ρ l r:=G.seq (G.region h)
theorem Z6 {id:Nat} {L2:List Oper} (h:GL P K (Exit.then (y.wp P (Exit.then (z.wp P Q) Q)) (Exit.then (z.wp P Q) Q)) L2 L2 ρ l r):G P K Q (.seq (.seq (.region id L2.toArray false) y) z) ρ l r:=G.seq (G.seq (G.region h))
theorem Z7 (h:G P K Q y ρ l r):G P K (Exit.then (y.wp P Q) Q) .skip ρ l r:=G.skip (GQ.thenN h)
theorem Z8 {id:Nat} {L2:List Oper} (h:GL P K (Exit.then (y.wp P Q) Q) L2 L2 ρ l r):G P K (Exit.then ((Code.seq (.region id L2.toArray false) y).wp P Q) Q) .skip ρ l r:=Z7 (G.seq (G.region h))
theorem Zb {I:Nat→Fram→List Seg→Prop} {n m:Nat} (hI:I m ρ0 l) (hm:m<n:=by omega) (hs:ρ0.map (fun p=>look p.1 ρ)=ρ0.map (fun p=>some p.2):=by exact rfl):GQ K (Exit.then (Back K I r n) Q) .normal ρ l r:=GQ.back hm hI (Sub.ofMap hs)
theorem Zm {M:Fram→List Seg→Prop} (hM:M ρ0 l) (hs:ρ0.map (fun p=>look p.1 ρ)=ρ0.map (fun p=>some p.2):=by exact rfl):GQ K (Exit.then (fun a w=>∃ρ l,M ρ l∧At K ρ l r a w) Q) .normal ρ l r:=GQ.meet hM (Sub.ofMap hs)
theorem Zo {c:Code} (I:Nat→Fram→List Seg→Prop) {n:Nat} (h0:I n ρ0 l) (h:∀n ρ l,I n ρ l→G P K (Exit.then (Back K I r n) Q) c ρ l r) (hs:ρ0.map (fun p=>look p.1 ρ)=ρ0.map (fun p=>some p.2):=by exact rfl):G P K Q (.loop c) ρ l r:=G.loop I h0 (Sub.ofMap hs) h
theorem Zc {c:Operand} {p:Prop} [Decidable p] (ht:p→G P K Q x ρ l r) (hf:¬p→G P K Q y ρ l r) (hc:ev ρ c=some (.bool (decide p)):=by exact rfl):G P K Q (.cond c x y) ρ l r:=G.condD hc ht hf
end
section
variable {P:Program} {K:Kx} {Q:Exit→Act→World→Prop} {ρ ρ':Fram} {l r:List Seg} {L2 rest':List Oper} {L:List Oper} {x y z:Code} {id:Nat}
theorem YG (h:GL P K Q L2 rest' ρ' l r) (hs:adv L2 K.n L2 ρ=some (rest',ρ'):=by exact rfl):G P K Q (.region id L2.toArray false) ρ l r:=G.region (Ya h hs)
theorem Y1 (h:GL P K Q L2 rest' ρ' l r) (hs:adv L2 K.n L2 ρ=some (rest',ρ'):=by exact rfl):GL P K (Exit.then ((Code.region id L2.toArray false).wp P Q) Q) L [] ρ l r:=Z1 (Ya h hs)
theorem Y2 (h:GL P K (Exit.then (y.wp P Q) Q) L2 rest' ρ' l r) (hs:adv L2 K.n L2 ρ=some (rest',ρ'):=by exact rfl):GL P K (Exit.then ((Code.seq (.region id L2.toArray false) y).wp P Q) Q) L [] ρ l r:=Z2 (Ya h hs)
theorem Y3 (h:GL P K (Exit.then (y.wp P (Exit.then (z.wp P Q) Q)) (Exit.then (z.wp P Q) Q)) L2 rest' ρ' l r) (hs:adv L2 K.n L2 ρ=some (rest',ρ'):=by exact rfl):GL P K (Exit.then ((Code.seq (.seq (.region id L2.toArray false) y) z).wp P Q) Q) L [] ρ l r:=Z3 (Ya h hs)
theorem Y5 (h:GL P K (Exit.then (y.wp P Q) Q) L2 rest' ρ' l r) (hs:adv L2 K.n L2 ρ=some (rest',ρ'):=by exact rfl):G P K Q (.seq (.region id L2.toArray false) y) ρ l r:=Z5 (Ya h hs)
theorem Y6 (h:GL P K (Exit.then (y.wp P (Exit.then (z.wp P Q) Q)) (Exit.then (z.wp P Q) Q)) L2 rest' ρ' l r) (hs:adv L2 K.n L2 ρ=some (rest',ρ'):=by exact rfl):G P K Q (.seq (.seq (.region id L2.toArray false) y) z) ρ l r:=Z6 (Ya h hs)
theorem Y8 (h:GL P K (Exit.then (y.wp P Q) Q) L2 rest' ρ' l r) (hs:adv L2 K.n L2 ρ=some (rest',ρ'):=by exact rfl):G P K (Exit.then ((Code.seq (.region id L2.toArray false) y).wp P Q) Q) .skip ρ l r:=Z8 (Ya h hs)
end
section
variable {P:Program} {ρ:Fram} {o:Oper} {x y:Operand} {s f n t b q len cap sz:Nat} {l r:List Seg} {v:Value} {k k':IntKind} {ty ty':TypeId}
theorem Zf (hP:fieldOff P s f=some n) (ho:o.op=.fieldAddr s x f:=by exact rfl) (hx:ev ρ x=some (.pointer (some ⟨b,q,none⟩)):=by exact rfl):OpY P ρ o (.pointer (some ⟨b,q+n,none⟩)):=y_fa ho hx hP
theorem Zlen {p:Option Addr} {a:Call} {s:Nat} (hu:P.underlying t=some (.slice s)) (ho:o.op=.call a:=by exact rfl) (hc:a.callee=.builtin .len:=by exact rfl) (hx:evs ρ a.args.toList=some [.slice p len cap]:=by exact rfl) (ht:a.argTypes= #[t]:=by exact rfl):OpY P ρ o (.int .i64 ((len:Nat):Int)):=y_len ho hc hx ht hu
theorem Zlt (m n:Nat) (ho:o.op=.binOp .lss ty x y ty':=by exact rfl) (hx:ev ρ x=some (.int k ((m:Nat):Int)):=by exact rfl) (hy:ev ρ y=some (.int k ((n:Nat):Int)):=by exact rfl):OpY P ρ o (.bool (decide (((m:Nat):Int)<((n:Nat):Int)))):=y_lt ho hx hy
theorem Zle (m n:Nat) (ho:o.op=.binOp .leq ty x y ty':=by exact rfl) (hx:ev ρ x=some (.int k ((m:Nat):Int)):=by exact rfl) (hy:ev ρ y=some (.int k ((n:Nat):Int)):=by exact rfl):OpY P ρ o (.bool (decide (((m:Nat):Int)≤((n:Nat):Int)))):=y_le ho hx hy
theorem Zgt (m n:Nat) (ho:o.op=.binOp .gtr ty x y ty':=by exact rfl) (hx:ev ρ x=some (.int k ((m:Nat):Int)):=by exact rfl) (hy:ev ρ y=some (.int k ((n:Nat):Int)):=by exact rfl):OpY P ρ o (.bool (decide (((n:Nat):Int)<((m:Nat):Int)))):=y_gt ho hx hy
theorem Zge (m n:Nat) (ho:o.op=.binOp .geq ty x y ty':=by exact rfl) (hx:ev ρ x=some (.int k ((m:Nat):Int)):=by exact rfl) (hy:ev ρ y=some (.int k ((n:Nat):Int)):=by exact rfl):OpY P ρ o (.bool (decide (((n:Nat):Int)≤((m:Nat):Int)))):=y_ge ho hx hy
theorem Zeq (m n:Nat) (ho:o.op=.binOp .eql ty x y ty':=by exact rfl) (hx:ev ρ x=some (.int k ((m:Nat):Int)):=by exact rfl) (hy:ev ρ y=some (.int k ((n:Nat):Int)):=by exact rfl):OpY P ρ o (.bool (decide (((m:Nat):Int)=((n:Nat):Int)))):=y_eq ho hx hy
theorem Zne (m n:Nat) (ho:o.op=.binOp .neq ty x y ty':=by exact rfl) (hx:ev ρ x=some (.int k ((m:Nat):Int)):=by exact rfl) (hy:ev ρ y=some (.int k ((n:Nat):Int)):=by exact rfl):OpY P ρ o (.bool (decide (((m:Nat):Int)≠((n:Nat):Int)))):=y_ne ho hx hy
theorem Zq {A:Nat} (B:Nat) (h:OpY P ρ o (.int k ((A:Nat):Int))) (e:A=B:=by omega):OpY P ρ o (.int k ((B:Nat):Int)):=e▸h
theorem Zqr {A:Nat} (B:Nat) (h:OpR P ρ l r o (.int k ((A:Nat):Int))) (e:A=B:=by omega):OpR P ρ l r o (.int k ((B:Nat):Int)):=e▸h
theorem Zx (q' m:Nat) (hP:sliceElem P t=some 1) (ho:o.op=.indexAddr t x y:=by exact rfl) (hx:ev ρ x=some (.slice (some ⟨b,q,none⟩) len cap):=by exact rfl) (hy:ev ρ y=some (.int k (m:Nat)):=by exact rfl) (h:m<len:=by omega) (hq:q+m=q':=by omega):OpY P ρ o (.pointer (some ⟨b,q',none⟩)):=y_ix1 ho hx hy hP h hq
theorem Zxa (q' m:Nat) (hP:arrElem P t=some (n,sz)) (ho:o.op=.indexAddr t x y:=by exact rfl) (hx:ev ρ x=some (.pointer (some ⟨b,q,none⟩)):=by exact rfl) (hy:ev ρ y=some (.int k (m:Nat)):=by exact rfl) (h:m<n:=by omega) (hq:q+m*sz=q':=by omega):OpY P ρ o (.pointer (some ⟨b,q',none⟩)):=y_ia ho hx hy hP h hq
theorem Zxb (q' m:Nat) (hP:arrElem P t=some (n,1)) (ho:o.op=.indexAddr t x y:=by exact rfl) (hx:ev ρ x=some (.pointer (some ⟨b,q,none⟩)):=by exact rfl) (hy:ev ρ y=some (.int k (m:Nat)):=by exact rfl) (h:m<n:=by omega) (hq:q+m=q':=by omega):OpY P ρ o (.pointer (some ⟨b,q',none⟩)):=y_ia1 ho hx hy hP h hq
theorem Zl {sg:Seg} (i j:Nat) (hP:aggB P t=some false) (hs:nthS i l=some sg:=by exact rfl) (ho:o.op=.load t x:=by exact rfl) (hx:ev ρ x=some (.pointer (some ⟨sg.b,q,none⟩)):=by exact rfl) (hq:q=sg.o+j:=by exact rfl) (hc:sg.cs[j]? =some v:=by exact rfl):OpR P ρ l r o v:=r_ld i j hs ho hx hP hq hc
theorem Zk {sg:Seg} (i j:Nat) (hP:aggB P t=some false) (hs:nthS i r=some sg:=by exact rfl) (ho:o.op=.load t x:=by exact rfl) (hx:ev ρ x=some (.pointer (some ⟨sg.b,q,none⟩)):=by exact rfl) (hq:q=sg.o+j:=by exact rfl) (hc:sg.cs[j]? =some v:=by exact rfl):OpR P ρ l r o v:=r_ldr i j hs ho hx hP hq hc
theorem Zlc {sg:Seg} (i j:Nat) (hP:aggB P t=some false) (hs:nthS i l=some sg) (hc:sg.cs[j]? =some v) (ho:o.op=.load t x:=by exact rfl) (hx:ev ρ x=some (.pointer (some ⟨sg.b,q,none⟩)):=by exact rfl) (hq:q=sg.o+j:=by exact rfl):OpR P ρ l r o v:=r_ld i j hs ho hx hP hq hc
theorem Zkc {sg:Seg} (i j:Nat) (hP:aggB P t=some false) (hs:nthS i r=some sg) (hc:sg.cs[j]? =some v) (ho:o.op=.load t x:=by exact rfl) (hx:ev ρ x=some (.pointer (some ⟨sg.b,q,none⟩)):=by exact rfl) (hq:q=sg.o+j:=by exact rfl):OpR P ρ l r o v:=r_ldr i j hs ho hx hP hq hc
theorem Zla {sg:Seg} {vs:List Value} {n:Nat} (i j:Nat) (hP:aggB P t=some true) (hz:sizeB P t=some n) (hs:nthS i l=some sg:=by exact rfl) (ho:o.op=.load t x:=by exact rfl) (hx:ev ρ x=some (.pointer (some ⟨sg.b,q,none⟩)):=by exact rfl) (hq:q=sg.o+j:=by exact rfl) (hv:(sg.cs.drop j).take n=vs:=by exact rfl) (hn:vs.length=n:=by exact rfl):OpR P ρ l r o (.agg vs.toArray):=r_lda i j hs ho hx hP hz hq hv hn
end
section
variable {P:Program} {K:Kx} {ρ:Fram} {l r:List Seg} {o:Oper} {x y:Operand} {t q n:Nat} {v:Value}
theorem Zst {sg:Seg} (i j:Nat) (hP:sizeB P t=some 1) (hs:nthS i l=some sg:=by exact rfl) (ho:o.op=.store t x y:=by exact rfl) (hx:ev ρ x=some (.pointer (some ⟨sg.b,q,none⟩)):=by exact rfl) (hy:ev ρ y=some v:=by exact rfl) (hv:v.oneCell'=true:=by exact rfl) (hq:q=sg.o+j:=by exact rfl) (hj:Nat.ble (j+1) sg.cs.length=true:=by exact rfl) (hd:o.dst=none:=by exact rfl):Eff P K ρ l r o (fun ρ' l'=>ρ'=ρ∧l'=setS i ⟨sg.b,sg.o,sg.cs.set j v,sg.sh⟩ l):=e_st i j hs ho hx hy hP hv hq (Nat.le_of_ble_eq_true hj) hd rfl
end
theorem Ov {p:Prop} (h:p:=by first|rfl|simp[Instr.fill,Value.cells,range1,range2,range3]):p:=h
section
variable {P:Program} {K:Kx} {ρ:Fram} {l r:List Seg} {o:Oper} {x y:Operand} {t q n b off v d f:Nat} {k k':IntKind} {D:List Nat} {sh:Option (TypeId × Nat)}
theorem Zsu (i j:Nat) (hP:sizeB P t=some 1) (hs:nthS i l=some ⟨b,off,nats k D,sh⟩:=by exact rfl) (ho:o.op=.store t x y:=by exact rfl) (hx:ev ρ x=some (.pointer (some ⟨b,q,none⟩)):=by exact rfl) (hy:ev ρ y=some (.int k ((v:Nat):Int)):=by exact rfl) (hd:o.dst=none:=by exact rfl)
    (hq:q=off+j:=by first|rfl|exact(Nat.zero_add _).symm|omega) (hj:j<D.length:=by first|omega|(simp;omega)|simp):Eff P K ρ l r o (fun ρ' l'=>ρ'=ρ∧l'=setS i ⟨b,off,nats k (D.set j v),sh⟩ l):=
  e_st i j hs ho hx hy hP rfl hq (by rw[nats_length];exact hj) hd (nats_set _ _ _ _)
theorem Zsa (i j:Nat) (hP:sizeB P t=some 1) (hs:nthS i l=some ⟨b,off,nats k D,sh⟩:=by exact rfl) (ho:o.op=.store t x y:=by exact rfl) (hx:ev ρ x=some (.pointer (some ⟨b,q,none⟩)):=by exact rfl) (hy:ev ρ y=some (.agg #[.int k ((v:Nat):Int)]):=by exact rfl) (hd:o.dst=none:=by exact rfl)
    (hq:q=off+j:=by first|rfl|exact(Nat.zero_add _).symm|omega) (hj:j<D.length:=by first|omega|(simp;omega)|simp):Eff P K ρ l r o (fun ρ' l'=>ρ'=ρ∧l'=setS i ⟨b,off,nats k (D.set j v),sh⟩ l):=
  e_sta (vs:=[.int k ((v:Nat):Int)]) i j hs ho hx hy hP rfl rfl hq (by show j+1≤(nats k D).length;rw[nats_length];exact hj) hd (by show(nats k D).set j _=_;exact nats_set _ _ _ _)
theorem Zsw {sg:Seg} {vs:List Value} (i:Nat) (hP:sizeB P t=some n) (hs:nthS i l=some sg:=by exact rfl) (ho:o.op=.store t x y:=by exact rfl) (hx:ev ρ x=some (.pointer (some ⟨sg.b,q,none⟩)):=by exact rfl) (hy:ev ρ y=some (.agg vs.toArray):=by exact rfl) (hd:o.dst=none:=by exact rfl) (hq:q=sg.o:=by exact rfl)
    (hn:vs.length=n:=by exact rfl) (hv:(vs.all fun u=>u.oneCell')=true:=by exact rfl) (hj:Nat.ble n sg.cs.length=true:=by exact rfl) (hc:spl sg.cs 0 vs=vs:=by exact rfl):Eff P K ρ l r o (fun ρ' l'=>ρ'=ρ∧l'=setS i ⟨sg.b,sg.o,vs,sg.sh⟩ l):=
  e_sta i 0 hs ho hx hy hP hn hv hq (by rw[Nat.zero_add];exact Nat.le_of_ble_eq_true hj) hd hc
theorem Zal {cs:List Value} (hz:zeroC P t=some cs) (ho:o.op=.alloc t:=by exact rfl) (hd:o.dst=some d:=by exact rfl) (hn:Nat.blt d K.n=true:=by exact rfl):
    Eff P K ρ l r o (fun ρ' l'=>∃b,ρ'=(d,.pointer (some ⟨b,0,none⟩))::ρ∧l'=⟨b,0,cs,none⟩::l):=e_al ho hz hd hn
def callW (L:List Oper) (o:Oper) (n:Nat) (ρ:Fram) (l r:List Seg) (is rs:List Nat):Option (Nat × FuncId × List Value × List Seg × List Seg × List Seg):=match want L ρ o with
  |some true=>match o.op with
    | .call c=>match c.callee with
      | .value (.func f)=>match evs ρ c.args.toList with
        |some args=>match pickS is l with
          |some (lc,rest)=>match pickR rs (rest++r) with
            |some rc=>match o.dst with
              |some d=>match Nat.blt d n with
                |true=>some (d,f,args,lc,rest,rc)
                |false=>none
              |none=>none
            |none=>none
          |none=>none
        |none=>none
      |_=>none
    |_=>none
  |_=>none
def callP (L:List Oper) (i n:Nat) (ρ:Fram) (l r:List Seg) (is rs:List Nat):Option (Nat × FuncId × List Value × List Seg × List Seg × List Seg):=match nth i L with
  |some o=>callW L o n ρ l r is rs
  |none=>none
theorem callW_ok {f:FuncId} {L:List Oper} {is rs:List Nat} {args:List Value} {lc rest rc:List Seg} {Post:Value→List Seg→Prop} (h:callW L o K.n ρ l r is rs=some (d,f,args,lc,rest,rc)) (con:Con P f args lc rc Post):
    want L ρ o=some true∧Eff P K ρ l r o (fun ρ' l'=>∃v lc',Post v lc'∧ρ'=(d,v)::ρ∧l'=lc'++rest):=by
  unfold callW at h
  repeat' split at h
  all_goals first
    |(cases h;exact⟨Oa,e_call is rs con Oa Oa Oa Oa Oa Oa Oa⟩)
    |cases h
theorem callP_ok {L:List Oper} {i:Nat} {is rs:List Nat} {z:Nat × FuncId × List Value × List Seg × List Seg × List Seg} (h:callP L i n ρ l r is rs=some z):nth i L=some (nthO i L)∧callW L (nthO i L) n ρ l r is rs=some z:=by
  unfold callP at h
  split at h
  · rename_i o ho;rw[nthO_ok ho];exact⟨ho,h⟩
  · cases h
variable {Q:Exit→Act→World→Prop} {L rest:List Oper} {fi:FuncId} {args:List Value} {lc l2 rc l1:List Seg} {u:Value} {Post:Value→List Seg→Prop} {i:Nat} {os:List (Nat × Kd)} {pl alt:Pl}
theorem Zcp (is rs:List Nat) (con:Con P fi args lc rc Post) (hc:callW L o K.n ρ l r is rs=some (d,fi,args,lc,l2,rc)) (g:∀v l1,Post v l1→GL P K Q L rest ((d,v)::ρ) (l1++l2) r):GL P K Q L (o::rest) ρ l r:=
  GL.eff (callW_ok hc con).2 (callW_ok hc con).1 fun _ _ ⟨v,l1,h,h1,h2⟩=>by subst h1;subst h2;exact g v l1 h
theorem Zcc (is rs:List Nat) (con:Con P fi args lc rc (fun v l'=>v=u∧l'=l1)) (hc:callW L o K.n ρ l r is rs=some (d,fi,args,lc,l2,rc)) (g:GL P K Q L rest ((d,u)::ρ) (l1++l2) r):GL P K Q L (o::rest) ρ l r:=
  Zcp is rs con hc fun _ _ ⟨h1,h2⟩=>by subst h1;subst h2;exact g
theorem Zpcp (is rs:List Nat) (con:Con P fi args lc rc Post) (hc:callP L i K.n ρ l r is rs=some (d,fi,args,lc,l2,rc)) (g:∀v l1,Post v l1→GP P K Q L os ((d,v)::ρ) (l1++l2) r):GP P K Q L ((i,.e)::os) ρ l r:=
  GP.eff (callW_ok (callP_ok hc).2 con).2 (callP_ok hc).1 (callW_ok (callP_ok hc).2 con).1 fun _ _ ⟨v,l1,h,h1,h2⟩=>by subst h1;subst h2;exact g v l1 h
theorem Zpcc (is rs:List Nat) (con:Con P fi args lc rc (fun v l'=>v=u∧l'=l1)) (hc:callP L i K.n ρ l r is rs=some (d,fi,args,lc,l2,rc)) (g:GP P K Q L os ((d,u)::ρ) (l1++l2) r):GP P K Q L ((i,.e)::os) ρ l r:=
  Zpcp is rs con hc fun _ _ ⟨h1,h2⟩=>by subst h1;subst h2;exact g
theorem Ztcp (is rs:List Nat) (con:Con P fi args lc rc Post) (hc:callP L i K.n ρ l r is rs=some (d,fi,args,lc,l2,rc)) (g:∀v l1,Post v l1→GT P K Q L pl ((d,v)::ρ) (l1++l2) r) (a:GT P K Q L alt ρ l r):GT P K Q L (.ef i pl alt) ρ l r:=
  GT.eff (callW_ok (callP_ok hc).2 con).2 (callP_ok hc).1 (callW_ok (callP_ok hc).2 con).1 (fun _ _ ⟨v,l1,h,h1,h2⟩=>by subst h1;subst h2;exact g v l1 h) a
theorem Ztcc (is rs:List Nat) (con:Con P fi args lc rc (fun v l'=>v=u∧l'=l1)) (hc:callP L i K.n ρ l r is rs=some (d,fi,args,lc,l2,rc)) (g:GT P K Q L pl ((d,u)::ρ) (l1++l2) r) (a:GT P K Q L alt ρ l r):GT P K Q L (.ef i pl alt) ρ l r:=
  Ztcp is rs con hc (fun _ _ ⟨h1,h2⟩=>by subst h1;subst h2;exact g) a
theorem Zi {fn:Func} {c:Code} (hf:P.funcs[fi]? =some fn) (hb:fn.body=some c) (h:∀w0,G P ⟨fn.ntmps,l,w0⟩ (bodyPost P fn (Ends Post l r w0)) c (frArgs 0 args) l r) (hname:(fn.name== "runtime.NumGoroutine")=false:=by kernel_rfl) (hn:Nat.ble args.length fn.ntmps=true:=by exact rfl):Con P fi args l r Post:=
  Con.intro hf hb hname (Nat.le_of_ble_eq_true hn) h
theorem ZR {X:Act→World→Prop} (h:GQ K Q .ret ρ l r):GQ K (Exit.then X Q) .ret ρ l r:=h
theorem ZB {X:Nat} (h:GQ K Q .ret ρ l r):GQ K (Exit.inBlock X Q) .ret ρ l r:=h
end
abbrev YS (i:Nat) (p:Pl):Pl:=.st i false p
abbrev YE (i:Nat) (p q:Pl):Pl:=.ef i p q
abbrev YF (i:Nat) (p:Pl):Pl:=.ef i p .stop
abbrev Shp:=Option (TypeId × Nat)
abbrev Va (x:Nat):Value:=.int .u8 ((x:Nat):Int)
abbrev Vb (x:Nat):Value:=.int .u16 ((x:Nat):Int)
abbrev Vc (x:Nat):Value:=.int .u32 ((x:Nat):Int)
abbrev Vd (x:Nat):Value:=.int .u64 ((x:Nat):Int)
abbrev Ve (x:Nat):Value:=.int .i8 ((x:Nat):Int)
abbrev Vf (x:Nat):Value:=.int .i16 ((x:Nat):Int)
abbrev Vg (x:Nat):Value:=.int .i32 ((x:Nat):Int)
abbrev Vh (x:Nat):Value:=.int .i64 ((x:Nat):Int)
abbrev Vp (b o:Nat):Value:=.pointer (some ⟨b,o,none⟩)
abbrev Vs (b o n c:Nat):Value:=.slice (some ⟨b,o,none⟩) n c
section
variable {P:Program} {ρ:Fram} {o:Oper} {x y:Operand} {ty ty':TypeId}
theorem ZaddNa (m n:Nat) (ho:o.op=.binOp .add ty x y ty':=by exact rfl) (hx:ev ρ x=some (.int .u8 (m:Nat)):=by exact rfl) (hy:ev ρ y=some (.int .u8 (n:Nat)):=by exact rfl) (h:m+n≤255:=by omega):OpY P ρ o (.int .u8 ((m+n:Nat):Int)):=addN_u8 ho hx hy h
theorem ZaddNb (m n:Nat) (ho:o.op=.binOp .add ty x y ty':=by exact rfl) (hx:ev ρ x=some (.int .u16 (m:Nat)):=by exact rfl) (hy:ev ρ y=some (.int .u16 (n:Nat)):=by exact rfl) (h:m+n≤65535:=by omega):OpY P ρ o (.int .u16 ((m+n:Nat):Int)):=addN_u16 ho hx hy h
theorem ZaddNc (m n:Nat) (ho:o.op=.binOp .add ty x y ty':=by exact rfl) (hx:ev ρ x=some (.int .u32 (m:Nat)):=by exact rfl) (hy:ev ρ y=some (.int .u32 (n:Nat)):=by exact rfl) (h:m+n≤4294967295:=by omega):OpY P ρ o (.int .u32 ((m+n:Nat):Int)):=addN_u32 ho hx hy h
theorem ZaddNd (m n:Nat) (ho:o.op=.binOp .add ty x y ty':=by exact rfl) (hx:ev ρ x=some (.int .u64 (m:Nat)):=by exact rfl) (hy:ev ρ y=some (.int .u64 (n:Nat)):=by exact rfl) (h:m+n≤18446744073709551615:=by omega):OpY P ρ o (.int .u64 ((m+n:Nat):Int)):=addN_u64 ho hx hy h
theorem ZaddNg (m n:Nat) (ho:o.op=.binOp .add ty x y ty':=by exact rfl) (hx:ev ρ x=some (.int .i32 (m:Nat)):=by exact rfl) (hy:ev ρ y=some (.int .i32 (n:Nat)):=by exact rfl) (h:m+n≤2147483647:=by omega):OpY P ρ o (.int .i32 ((m+n:Nat):Int)):=addN_i32 ho hx hy h
theorem ZaddNh (m n:Nat) (ho:o.op=.binOp .add ty x y ty':=by exact rfl) (hx:ev ρ x=some (.int .i64 (m:Nat)):=by exact rfl) (hy:ev ρ y=some (.int .i64 (n:Nat)):=by exact rfl) (h:m+n≤9223372036854775807:=by omega):OpY P ρ o (.int .i64 ((m+n:Nat):Int)):=addN_i64 ho hx hy h
theorem ZaddWa (m n:Nat) (ho:o.op=.binOp .add ty x y ty':=by exact rfl) (hx:ev ρ x=some (.int .u8 (m:Nat)):=by exact rfl) (hy:ev ρ y=some (.int .u8 (n:Nat)):=by exact rfl):OpY P ρ o (.int .u8 (((m+n)%256:Nat):Int)):=addW_u8 ho hx hy
theorem ZandNa (m n:Nat) (ho:o.op=.binOp .and ty x y ty':=by exact rfl) (hx:ev ρ x=some (.int .u8 (m:Nat)):=by exact rfl) (hy:ev ρ y=some (.int .u8 (n:Nat)):=by exact rfl) (h:m<256∨n<256:=by omega) (hm:m<256:=by omega) (hn:n<256:=by omega):OpY P ρ o (.int .u8 ((m&&&n:Nat):Int)):=andN_u8 ho hx hy h hm hn
theorem ZandNb (m n:Nat) (ho:o.op=.binOp .and ty x y ty':=by exact rfl) (hx:ev ρ x=some (.int .u16 (m:Nat)):=by exact rfl) (hy:ev ρ y=some (.int .u16 (n:Nat)):=by exact rfl) (h:m<65536∨n<65536:=by omega) (hm:m<65536:=by omega) (hn:n<65536:=by omega):OpY P ρ o (.int .u16 ((m&&&n:Nat):Int)):=andN_u16 ho hx hy h hm hn
theorem ZandNc (m n:Nat) (ho:o.op=.binOp .and ty x y ty':=by exact rfl) (hx:ev ρ x=some (.int .u32 (m:Nat)):=by exact rfl) (hy:ev ρ y=some (.int .u32 (n:Nat)):=by exact rfl) (h:m<4294967296∨n<4294967296:=by omega) (hm:m<4294967296:=by omega) (hn:n<4294967296:=by omega):OpY P ρ o (.int .u32 ((m&&&n:Nat):Int)):=andN_u32 ho hx hy h hm hn
theorem ZandNd (m n:Nat) (ho:o.op=.binOp .and ty x y ty':=by exact rfl) (hx:ev ρ x=some (.int .u64 (m:Nat)):=by exact rfl) (hy:ev ρ y=some (.int .u64 (n:Nat)):=by exact rfl) (h:m<18446744073709551616∨n<18446744073709551616:=by omega) (hm:m<18446744073709551616:=by omega) (hn:n<18446744073709551616:=by omega):OpY P ρ o (.int .u64 ((m&&&n:Nat):Int)):=andN_u64 ho hx hy h hm hn
theorem ZandNh (m n:Nat) (ho:o.op=.binOp .and ty x y ty':=by exact rfl) (hx:ev ρ x=some (.int .i64 (m:Nat)):=by exact rfl) (hy:ev ρ y=some (.int .i64 (n:Nat)):=by exact rfl) (h:m<9223372036854775808∨n<9223372036854775808:=by omega) (hm:m<18446744073709551616:=by omega) (hn:n<18446744073709551616:=by omega):OpY P ρ o (.int .i64 ((m&&&n:Nat):Int)):=andN_i64 ho hx hy h hm hn
theorem ZcvNa (m:Nat) {s t:TypeId} {D:TypeDesc} {k:IntKind} (hs:P.underlying s=some D) (ht:P.underlying t=some (.int .u8)) (ho:o.op=.convert s t x:=by exact rfl) (hx:ev ρ x=some (.int k (m:Nat)):=by exact rfl) (h:m≤255:=by omega):OpY P ρ o (.int .u8 ((m:Nat):Int)):=cvN_u8 ho hs ht hx h
theorem ZcvNb (m:Nat) {s t:TypeId} {D:TypeDesc} {k:IntKind} (hs:P.underlying s=some D) (ht:P.underlying t=some (.int .u16)) (ho:o.op=.convert s t x:=by exact rfl) (hx:ev ρ x=some (.int k (m:Nat)):=by exact rfl) (h:m≤65535:=by omega):OpY P ρ o (.int .u16 ((m:Nat):Int)):=cvN_u16 ho hs ht hx h
theorem ZcvNc (m:Nat) {s t:TypeId} {D:TypeDesc} {k:IntKind} (hs:P.underlying s=some D) (ht:P.underlying t=some (.int .u32)) (ho:o.op=.convert s t x:=by exact rfl) (hx:ev ρ x=some (.int k (m:Nat)):=by exact rfl) (h:m≤4294967295:=by omega):OpY P ρ o (.int .u32 ((m:Nat):Int)):=cvN_u32 ho hs ht hx h
theorem ZcvNd (m:Nat) {s t:TypeId} {D:TypeDesc} {k:IntKind} (hs:P.underlying s=some D) (ht:P.underlying t=some (.int .u64)) (ho:o.op=.convert s t x:=by exact rfl) (hx:ev ρ x=some (.int k (m:Nat)):=by exact rfl) (h:m≤18446744073709551615:=by omega):OpY P ρ o (.int .u64 ((m:Nat):Int)):=cvN_u64 ho hs ht hx h
theorem ZcvNe (m:Nat) {s t:TypeId} {D:TypeDesc} {k:IntKind} (hs:P.underlying s=some D) (ht:P.underlying t=some (.int .i8)) (ho:o.op=.convert s t x:=by exact rfl) (hx:ev ρ x=some (.int k (m:Nat)):=by exact rfl) (h:m≤127:=by omega):OpY P ρ o (.int .i8 ((m:Nat):Int)):=cvN_i8 ho hs ht hx h
theorem ZcvNf (m:Nat) {s t:TypeId} {D:TypeDesc} {k:IntKind} (hs:P.underlying s=some D) (ht:P.underlying t=some (.int .i16)) (ho:o.op=.convert s t x:=by exact rfl) (hx:ev ρ x=some (.int k (m:Nat)):=by exact rfl) (h:m≤32767:=by omega):OpY P ρ o (.int .i16 ((m:Nat):Int)):=cvN_i16 ho hs ht hx h
theorem ZcvNh (m:Nat) {s t:TypeId} {D:TypeDesc} {k:IntKind} (hs:P.underlying s=some D) (ht:P.underlying t=some (.int .i64)) (ho:o.op=.convert s t x:=by exact rfl) (hx:ev ρ x=some (.int k (m:Nat)):=by exact rfl) (h:m≤9223372036854775807:=by omega):OpY P ρ o (.int .i64 ((m:Nat):Int)):=cvN_i64 ho hs ht hx h
theorem ZcvWa (m:Nat) {s t:TypeId} {D:TypeDesc} {k:IntKind} (hs:P.underlying s=some D) (ht:P.underlying t=some (.int .u8)) (ho:o.op=.convert s t x:=by exact rfl) (hx:ev ρ x=some (.int k (m:Nat)):=by exact rfl):OpY P ρ o (.int .u8 ((m%256:Nat):Int)):=cvW_u8 ho hs ht hx
theorem ZcvWb (m:Nat) {s t:TypeId} {D:TypeDesc} {k:IntKind} (hs:P.underlying s=some D) (ht:P.underlying t=some (.int .u16)) (ho:o.op=.convert s t x:=by exact rfl) (hx:ev ρ x=some (.int k (m:Nat)):=by exact rfl):OpY P ρ o (.int .u16 ((m%65536:Nat):Int)):=cvW_u16 ho hs ht hx
theorem ZmulNa (m n:Nat) (ho:o.op=.binOp .mul ty x y ty':=by exact rfl) (hx:ev ρ x=some (.int .u8 (m:Nat)):=by exact rfl) (hy:ev ρ y=some (.int .u8 (n:Nat)):=by exact rfl) (h:m*n≤255:=by omega):OpY P ρ o (.int .u8 ((m*n:Nat):Int)):=mulN_u8 ho hx hy h
theorem ZmulNd (m n:Nat) (ho:o.op=.binOp .mul ty x y ty':=by exact rfl) (hx:ev ρ x=some (.int .u64 (m:Nat)):=by exact rfl) (hy:ev ρ y=some (.int .u64 (n:Nat)):=by exact rfl) (h:m*n≤18446744073709551615:=by omega):OpY P ρ o (.int .u64 ((m*n:Nat):Int)):=mulN_u64 ho hx hy h
theorem ZmulNg (m n:Nat) (ho:o.op=.binOp .mul ty x y ty':=by exact rfl) (hx:ev ρ x=some (.int .i32 (m:Nat)):=by exact rfl) (hy:ev ρ y=some (.int .i32 (n:Nat)):=by exact rfl) (h:m*n≤2147483647:=by omega):OpY P ρ o (.int .i32 ((m*n:Nat):Int)):=mulN_i32 ho hx hy h
theorem ZmulNh (m n:Nat) (ho:o.op=.binOp .mul ty x y ty':=by exact rfl) (hx:ev ρ x=some (.int .i64 (m:Nat)):=by exact rfl) (hy:ev ρ y=some (.int .i64 (n:Nat)):=by exact rfl) (h:m*n≤9223372036854775807:=by omega):OpY P ρ o (.int .i64 ((m*n:Nat):Int)):=mulN_i64 ho hx hy h
theorem ZorNa (m n:Nat) (ho:o.op=.binOp .or ty x y ty':=by exact rfl) (hx:ev ρ x=some (.int .u8 (m:Nat)):=by exact rfl) (hy:ev ρ y=some (.int .u8 (n:Nat)):=by exact rfl) (hm:m<256:=by omega) (hn:n<256:=by omega):OpY P ρ o (.int .u8 ((m|||n:Nat):Int)):=orN_u8 ho hx hy hm hn
theorem ZorNb (m n:Nat) (ho:o.op=.binOp .or ty x y ty':=by exact rfl) (hx:ev ρ x=some (.int .u16 (m:Nat)):=by exact rfl) (hy:ev ρ y=some (.int .u16 (n:Nat)):=by exact rfl) (hm:m<65536:=by omega) (hn:n<65536:=by omega):OpY P ρ o (.int .u16 ((m|||n:Nat):Int)):=orN_u16 ho hx hy hm hn
theorem ZorNc (m n:Nat) (ho:o.op=.binOp .or ty x y ty':=by exact rfl) (hx:ev ρ x=some (.int .u32 (m:Nat)):=by exact rfl) (hy:ev ρ y=some (.int .u32 (n:Nat)):=by exact rfl) (hm:m<4294967296:=by omega) (hn:n<4294967296:=by omega):OpY P ρ o (.int .u32 ((m|||n:Nat):Int)):=orN_u32 ho hx hy hm hn
theorem ZorNd (m n:Nat) (ho:o.op=.binOp .or ty x y ty':=by exact rfl) (hx:ev ρ x=some (.int .u64 (m:Nat)):=by exact rfl) (hy:ev ρ y=some (.int .u64 (n:Nat)):=by exact rfl) (hm:m<18446744073709551616:=by omega) (hn:n<18446744073709551616:=by omega):OpY P ρ o (.int .u64 ((m|||n:Nat):Int)):=orN_u64 ho hx hy hm hn
theorem ZorNh (m n:Nat) (ho:o.op=.binOp .or ty x y ty':=by exact rfl) (hx:ev ρ x=some (.int .i64 (m:Nat)):=by exact rfl) (hy:ev ρ y=some (.int .i64 (n:Nat)):=by exact rfl) (hm:m<9223372036854775808:=by omega) (hn:n<9223372036854775808:=by omega):OpY P ρ o (.int .i64 ((m|||n:Nat):Int)):=orN_i64 ho hx hy hm hn
theorem ZquoNa (m n:Nat) (ho:o.op=.binOp .quo ty x y ty':=by exact rfl) (hx:ev ρ x=some (.int .u8 (m:Nat)):=by exact rfl) (hy:ev ρ y=some (.int .u8 (n:Nat)):=by exact rfl) (h0:0<n:=by omega) (hm:m≤255:=by omega):OpY P ρ o (.int .u8 ((m/n:Nat):Int)):=quoN_u8 ho hx hy h0 hm
theorem ZquoNh (m n:Nat) (ho:o.op=.binOp .quo ty x y ty':=by exact rfl) (hx:ev ρ x=some (.int .i64 (m:Nat)):=by exact rfl) (hy:ev ρ y=some (.int .i64 (n:Nat)):=by exact rfl) (h0:0<n:=by omega) (hm:m≤9223372036854775807:=by omega):OpY P ρ o (.int .i64 ((m/n:Nat):Int)):=quoN_i64 ho hx hy h0 hm
theorem ZremNh (m n:Nat) (ho:o.op=.binOp .rem ty x y ty':=by exact rfl) (hx:ev ρ x=some (.int .i64 (m:Nat)):=by exact rfl) (hy:ev ρ y=some (.int .i64 (n:Nat)):=by exact rfl) (h0:0<n:=by omega):OpY P ρ o (.int .i64 ((m%n:Nat):Int)):=remN_i64 ho hx hy h0
theorem ZshlNb (m n:Nat) {k':IntKind} (ho:o.op=.binOp .shl ty x y ty':=by exact rfl) (hx:ev ρ x=some (.int .u16 (m:Nat)):=by exact rfl) (hy:ev ρ y=some (.int k' (n:Nat)):=by exact rfl) (hn:n≤16:=by omega) (h:m*2^n≤65535:=by omega):OpY P ρ o (.int .u16 ((m*2^n:Nat):Int)):=shlN_u16 ho hx hy hn h
theorem ZshlNc (m n:Nat) {k':IntKind} (ho:o.op=.binOp .shl ty x y ty':=by exact rfl) (hx:ev ρ x=some (.int .u32 (m:Nat)):=by exact rfl) (hy:ev ρ y=some (.int k' (n:Nat)):=by exact rfl) (hn:n≤32:=by omega) (h:m*2^n≤4294967295:=by omega):OpY P ρ o (.int .u32 ((m*2^n:Nat):Int)):=shlN_u32 ho hx hy hn h
theorem ZshlNf (m n:Nat) {k':IntKind} (ho:o.op=.binOp .shl ty x y ty':=by exact rfl) (hx:ev ρ x=some (.int .i16 (m:Nat)):=by exact rfl) (hy:ev ρ y=some (.int k' (n:Nat)):=by exact rfl) (hn:n≤16:=by omega) (h:m*2^n≤32767:=by omega):OpY P ρ o (.int .i16 ((m*2^n:Nat):Int)):=shlN_i16 ho hx hy hn h
theorem ZshlNg (m n:Nat) {k':IntKind} (ho:o.op=.binOp .shl ty x y ty':=by exact rfl) (hx:ev ρ x=some (.int .i32 (m:Nat)):=by exact rfl) (hy:ev ρ y=some (.int k' (n:Nat)):=by exact rfl) (hn:n≤32:=by omega) (h:m*2^n≤2147483647:=by omega):OpY P ρ o (.int .i32 ((m*2^n:Nat):Int)):=shlN_i32 ho hx hy hn h
theorem ZshlNh (m n:Nat) {k':IntKind} (ho:o.op=.binOp .shl ty x y ty':=by exact rfl) (hx:ev ρ x=some (.int .i64 (m:Nat)):=by exact rfl) (hy:ev ρ y=some (.int k' (n:Nat)):=by exact rfl) (hn:n≤64:=by omega) (h:m*2^n≤9223372036854775807:=by omega):OpY P ρ o (.int .i64 ((m*2^n:Nat):Int)):=shlN_i64 ho hx hy hn h
theorem ZshlWa (m n:Nat) {k':IntKind} (ho:o.op=.binOp .shl ty x y ty':=by exact rfl) (hx:ev ρ x=some (.int .u8 (m:Nat)):=by exact rfl) (hy:ev ρ y=some (.int k' (n:Nat)):=by exact rfl):OpY P ρ o (.int .u8 ((m*2^n%256:Nat):Int)):=shlW_u8 ho hx hy
theorem ZshlWb (m n:Nat) {k':IntKind} (ho:o.op=.binOp .shl ty x y ty':=by exact rfl) (hx:ev ρ x=some (.int .u16 (m:Nat)):=by exact rfl) (hy:ev ρ y=some (.int k' (n:Nat)):=by exact rfl):OpY P ρ o (.int .u16 ((m*2^n%65536:Nat):Int)):=shlW_u16 ho hx hy
theorem ZshlWc (m n:Nat) {k':IntKind} (ho:o.op=.binOp .shl ty x y ty':=by exact rfl) (hx:ev ρ x=some (.int .u32 (m:Nat)):=by exact rfl) (hy:ev ρ y=some (.int k' (n:Nat)):=by exact rfl):OpY P ρ o (.int .u32 ((m*2^n%4294967296:Nat):Int)):=shlW_u32 ho hx hy
theorem ZshlWd (m n:Nat) {k':IntKind} (ho:o.op=.binOp .shl ty x y ty':=by exact rfl) (hx:ev ρ x=some (.int .u64 (m:Nat)):=by exact rfl) (hy:ev ρ y=some (.int k' (n:Nat)):=by exact rfl):OpY P ρ o (.int .u64 ((m*2^n%18446744073709551616:Nat):Int)):=shlW_u64 ho hx hy
theorem ZshrNa (m n:Nat) {k':IntKind} (ho:o.op=.binOp .shr ty x y ty':=by exact rfl) (hx:ev ρ x=some (.int .u8 (m:Nat)):=by exact rfl) (hy:ev ρ y=some (.int k' (n:Nat)):=by exact rfl) (h:m<256:=by omega):OpY P ρ o (.int .u8 ((m/2^n:Nat):Int)):=shrN_u8 ho hx hy h
theorem ZshrNb (m n:Nat) {k':IntKind} (ho:o.op=.binOp .shr ty x y ty':=by exact rfl) (hx:ev ρ x=some (.int .u16 (m:Nat)):=by exact rfl) (hy:ev ρ y=some (.int k' (n:Nat)):=by exact rfl) (h:m<65536:=by omega):OpY P ρ o (.int .u16 ((m/2^n:Nat):Int)):=shrN_u16 ho hx hy h
theorem ZshrNc (m n:Nat) {k':IntKind} (ho:o.op=.binOp .shr ty x y ty':=by exact rfl) (hx:ev ρ x=some (.int .u32 (m:Nat)):=by exact rfl) (hy:ev ρ y=some (.int k' (n:Nat)):=by exact rfl) (h:m<4294967296:=by omega):OpY P ρ o (.int .u32 ((m/2^n:Nat):Int)):=shrN_u32 ho hx hy h
theorem ZshrNd (m n:Nat) {k':IntKind} (ho:o.op=.binOp .shr ty x y ty':=by exact rfl) (hx:ev ρ x=some (.int .u64 (m:Nat)):=by exact rfl) (hy:ev ρ y=some (.int k' (n:Nat)):=by exact rfl) (h:m<18446744073709551616:=by omega):OpY P ρ o (.int .u64 ((m/2^n:Nat):Int)):=shrN_u64 ho hx hy h
theorem ZshrNg (m n:Nat) {k':IntKind} (ho:o.op=.binOp .shr ty x y ty':=by exact rfl) (hx:ev ρ x=some (.int .i32 (m:Nat)):=by exact rfl) (hy:ev ρ y=some (.int k' (n:Nat)):=by exact rfl) (h:m<4294967296:=by omega):OpY P ρ o (.int .i32 ((m/2^n:Nat):Int)):=shrN_i32 ho hx hy h
theorem ZshrNh (m n:Nat) {k':IntKind} (ho:o.op=.binOp .shr ty x y ty':=by exact rfl) (hx:ev ρ x=some (.int .i64 (m:Nat)):=by exact rfl) (hy:ev ρ y=some (.int k' (n:Nat)):=by exact rfl) (h:m<18446744073709551616:=by omega):OpY P ρ o (.int .i64 ((m/2^n:Nat):Int)):=shrN_i64 ho hx hy h
theorem ZsubNa (m n:Nat) (ho:o.op=.binOp .sub ty x y ty':=by exact rfl) (hx:ev ρ x=some (.int .u8 (m:Nat)):=by exact rfl) (hy:ev ρ y=some (.int .u8 (n:Nat)):=by exact rfl) (h:n≤m∧m≤255:=by omega):OpY P ρ o (.int .u8 ((m-n:Nat):Int)):=subN_u8 ho hx hy h
theorem ZsubNb (m n:Nat) (ho:o.op=.binOp .sub ty x y ty':=by exact rfl) (hx:ev ρ x=some (.int .u16 (m:Nat)):=by exact rfl) (hy:ev ρ y=some (.int .u16 (n:Nat)):=by exact rfl) (h:n≤m∧m≤65535:=by omega):OpY P ρ o (.int .u16 ((m-n:Nat):Int)):=subN_u16 ho hx hy h
theorem ZsubNc (m n:Nat) (ho:o.op=.binOp .sub ty x y ty':=by exact rfl) (hx:ev ρ x=some (.int .u32 (m:Nat)):=by exact rfl) (hy:ev ρ y=some (.int .u32 (n:Nat)):=by exact rfl) (h:n≤m∧m≤4294967295:=by omega):OpY P ρ o (.int .u32 ((m-n:Nat):Int)):=subN_u32 ho hx hy h
theorem ZsubNd (m n:Nat) (ho:o.op=.binOp .sub ty x y ty':=by exact rfl) (hx:ev ρ x=some (.int .u64 (m:Nat)):=by exact rfl) (hy:ev ρ y=some (.int .u64 (n:Nat)):=by exact rfl) (h:n≤m∧m≤18446744073709551615:=by omega):OpY P ρ o (.int .u64 ((m-n:Nat):Int)):=subN_u64 ho hx hy h
theorem ZsubNe (m n:Nat) (ho:o.op=.binOp .sub ty x y ty':=by exact rfl) (hx:ev ρ x=some (.int .i8 (m:Nat)):=by exact rfl) (hy:ev ρ y=some (.int .i8 (n:Nat)):=by exact rfl) (h:n≤m∧m≤127:=by omega):OpY P ρ o (.int .i8 ((m-n:Nat):Int)):=subN_i8 ho hx hy h
theorem ZsubNg (m n:Nat) (ho:o.op=.binOp .sub ty x y ty':=by exact rfl) (hx:ev ρ x=some (.int .i32 (m:Nat)):=by exact rfl) (hy:ev ρ y=some (.int .i32 (n:Nat)):=by exact rfl) (h:n≤m∧m≤2147483647:=by omega):OpY P ρ o (.int .i32 ((m-n:Nat):Int)):=subN_i32 ho hx hy h
theorem ZsubNh (m n:Nat) (ho:o.op=.binOp .sub ty x y ty':=by exact rfl) (hx:ev ρ x=some (.int .i64 (m:Nat)):=by exact rfl) (hy:ev ρ y=some (.int .i64 (n:Nat)):=by exact rfl) (h:n≤m∧m≤9223372036854775807:=by omega):OpY P ρ o (.int .i64 ((m-n:Nat):Int)):=subN_i64 ho hx hy h
end
abbrev e_4:Nat × Kd:=(4,.e)
abbrev e_6:Nat × Kd:=(6,.e)
abbrev e_7:Nat × Kd:=(7,.e)
abbrev e_8:Nat × Kd:=(8,.e)
abbrev e_9:Nat × Kd:=(9,.e)
abbrev e_10:Nat × Kd:=(10,.e)
abbrev e_11:Nat × Kd:=(11,.e)
abbrev e_12:Nat × Kd:=(12,.e)
abbrev e_13:Nat × Kd:=(13,.e)
abbrev e_14:Nat × Kd:=(14,.e)
abbrev e_15:Nat × Kd:=(15,.e)
abbrev e_16:Nat × Kd:=(16,.e)
abbrev e_21:Nat × Kd:=(21,.e)
abbrev e_25:Nat × Kd:=(25,.e)
abbrev e_26:Nat × Kd:=(26,.e)
abbrev r_0:Nat × Kd:=(0,.r)
abbrev r_1:Nat × Kd:=(1,.r)
abbrev r_2:Nat × Kd:=(2,.r)
abbrev r_3:Nat × Kd:=(3,.r)
abbrev r_4:Nat × Kd:=(4,.r)
abbrev r_5:Nat × Kd:=(5,.r)
abbrev r_6:Nat × Kd:=(6,.r)
abbrev r_7:Nat × Kd:=(7,.r)
abbrev r_8:Nat × Kd:=(8,.r)
abbrev r_9:Nat × Kd:=(9,.r)
abbrev r_10:Nat × Kd:=(10,.r)
abbrev r_11:Nat × Kd:=(11,.r)
abbrev r_12:Nat × Kd:=(12,.r)
abbrev r_13:Nat × Kd:=(13,.r)
abbrev r_14:Nat × Kd:=(14,.r)
abbrev r_16:Nat × Kd:=(16,.r)
abbrev r_18:Nat × Kd:=(18,.r)
abbrev r_19:Nat × Kd:=(19,.r)
abbrev r_20:Nat × Kd:=(20,.r)
abbrev r_22:Nat × Kd:=(22,.r)
abbrev r_24:Nat × Kd:=(24,.r)
abbrev r_30:Nat × Kd:=(30,.r)
abbrev r_36:Nat × Kd:=(36,.r)
abbrev r_42:Nat × Kd:=(42,.r)
abbrev y_0:Nat × Kd:=(0,.y)
abbrev y_1:Nat × Kd:=(1,.y)
abbrev y_2:Nat × Kd:=(2,.y)
abbrev y_3:Nat × Kd:=(3,.y)
abbrev y_4:Nat × Kd:=(4,.y)
abbrev y_5:Nat × Kd:=(5,.y)
abbrev y_6:Nat × Kd:=(6,.y)
abbrev y_7:Nat × Kd:=(7,.y)
abbrev y_8:Nat × Kd:=(8,.y)
abbrev y_9:Nat × Kd:=(9,.y)
abbrev y_10:Nat × Kd:=(10,.y)
abbrev y_11:Nat × Kd:=(11,.y)
abbrev y_12:Nat × Kd:=(12,.y)
abbrev y_13:Nat × Kd:=(13,.y)
abbrev y_14:Nat × Kd:=(14,.y)
abbrev y_15:Nat × Kd:=(15,.y)
abbrev y_16:Nat × Kd:=(16,.y)
abbrev y_17:Nat × Kd:=(17,.y)
abbrev y_18:Nat × Kd:=(18,.y)
abbrev y_19:Nat × Kd:=(19,.y)
abbrev y_20:Nat × Kd:=(20,.y)
abbrev y_21:Nat × Kd:=(21,.y)
abbrev y_22:Nat × Kd:=(22,.y)
abbrev y_23:Nat × Kd:=(23,.y)
abbrev y_24:Nat × Kd:=(24,.y)
abbrev y_25:Nat × Kd:=(25,.y)
abbrev y_26:Nat × Kd:=(26,.y)
abbrev y_27:Nat × Kd:=(27,.y)
abbrev y_28:Nat × Kd:=(28,.y)
abbrev y_29:Nat × Kd:=(29,.y)
abbrev y_31:Nat × Kd:=(31,.y)
abbrev y_32:Nat × Kd:=(32,.y)
abbrev y_33:Nat × Kd:=(33,.y)
abbrev y_34:Nat × Kd:=(34,.y)
abbrev y_35:Nat × Kd:=(35,.y)
abbrev y_37:Nat × Kd:=(37,.y)
abbrev y_38:Nat × Kd:=(38,.y)
abbrev y_39:Nat × Kd:=(39,.y)
abbrev y_40:Nat × Kd:=(40,.y)
abbrev y_41:Nat × Kd:=(41,.y)
abbrev y_43:Nat × Kd:=(43,.y)
abbrev y_44:Nat × Kd:=(44,.y)
abbrev y_45:Nat × Kd:=(45,.y)
abbrev y_46:Nat × Kd:=(46,.y)
section
variable {K:Kx} {Q:Exit→Act→World→Prop} {ρ:Fram} {l r:List Seg} {id:Nat} {L:List Oper}
theorem Zg (E:Nat) (order:List (Nat × Kd)) (h:GP Tryz.prog K Q L order ρ l r) (hB:planB L E order=true:=by kernel_rfl) (hQ:∀c a w (d:Nat) v,Q (.panic c) (a.put (some d) v) w→Q (.panic c) a w:=by exact fun _ _ _ _ _ h=>h):G Tryz.prog K Q (.region id L.toArray true) ρ l r:=G.plan E order mo hB hQ h
theorem Zh (E:Nat) (pl:Pl) (h:GT Tryz.prog K Q L pl ρ l r) (hB:treeB L E pl=true:=by kernel_rfl) (hQ:∀c a w (d:Nat) v,Q (.panic c) (a.put (some d) v) w→Q (.panic c) a w:=by exact fun _ _ _ _ _ h=>h):G Tryz.prog K Q (.region id L.toArray true) ρ l r:=G.tree E pl mo hB hQ h
end
end Go.Proofs.YtplgbfkpeampgaaGreatDoor
namespace Go.Proofs.YtplgbfkpeampgaaGreatDoor
open Go Tryz
theorem f0_91_21:fieldOff0 prog 91 21 91=some 279:=by kernel_rfl
end Go.Proofs.YtplgbfkpeampgaaGreatDoor
