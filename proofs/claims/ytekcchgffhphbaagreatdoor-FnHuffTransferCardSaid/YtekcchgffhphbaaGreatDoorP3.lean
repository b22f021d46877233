/- Closed facts on the program's types, and short names for the walk's steps. -/
import Derived.Test.YtekcchgffhphbaaGreatDoorProg
import Derived.Test.YtekcchgffhphbaaGreatDoorP1
set_option maxRecDepth 100000
set_option linter.unusedVariables false
set_option linter.unusedSimpArgs false
namespace Go.Proofs.YtekcchgffhphbaaGreatDoor
open Tryz
theorem mo:prog.follows .mixedOrders=true:=Kr
theorem PZ:ez prog 100=some (58,[.int .u16 ((0:Nat):Int)],1,2):=Kr
theorem ac4:ez prog 101=some (205,[.int .i32 ((0:Nat):Int),.int .u32 ((0:Nat):Int)],2,8):=Kr
theorem ac5:ez prog 104=some (165,[.int .u16 ((0:Nat):Int),.int .u8 ((0:Nat):Int),.int .u8 ((0:Nat):Int)],3,4):=Kr
theorem aD:ez prog 22=some (5,[.int .u8 ((0:Nat):Int)],1,1):=Kr
theorem aaj:ez prog 59=some (112,[.int .u16 ((0:Nat):Int),.int .u8 ((0:Nat):Int)],2,4):=Kr
theorem aak:ez prog 60=some (112,[.int .u16 ((0:Nat):Int),.int .u8 ((0:Nat):Int)],2,4):=Kr
theorem akC:ez prog 61=some (114,[.int .u16 ((0:Nat):Int)],1,2):=Kr
theorem aal:ez prog 64=some (174,[.int .u64 ((0:Nat):Int)],1,8):=Kr
theorem P3:kd prog 106=some [(0,256),(256,256),(512,2),(514,4),(518,3),(521,3),(524,1),(525,1),(526,1),(527,1),(528,1),(529,1),(530,1),(531,1),(532,1),(533,1)]:=Kr
theorem P4:kd prog 112=some [(0,1),(1,1)]:=Kr
theorem ac6:kd prog 114=some [(0,1)]:=Kr
theorem ac7:kd prog 118=some [(0,1),(1,1),(2,1)]:=Kr
theorem ac8:kd prog 138=some [(0,1)]:=Kr
theorem ac9:kd prog 183=some [(0,1),(1,1),(2,1)]:=Kr
theorem ada:kd prog 186=some [(0,1),(1,1),(2,1)]:=Kr
theorem Ev:kd prog 71=some [(0,256),(256,1),(257,1),(258,1),(259,1),(260,1),(261,1),(262,1),(263,1),(264,1),(265,1),(266,1),(267,1),(268,1),(269,1),(270,1),(271,1),(272,1),(273,1),(274,4),(278,1),(279,0),(279,256)]:=Kr
end Go.Proofs.YtekcchgffhphbaaGreatDoor
namespace Go.Proofs.YtekcchgffhphbaaGreatDoor
open Go
def opV (ρ:aB):Op→Option Value
  | .move x=>ev ρ x
  | .assign x=>ev ρ x
  | .nilCheck x=>match ev ρ x with
    |some (.pointer (some p))=>some (.pointer (some p))
    |_=>none
  | .extract x i=>match ev ρ x with
    |some (.tuple vs)=>vs[i]?
    |_=>none
  | .pick c x y=>match ev ρ c with
    |some (.bool true)=>ev ρ x
    |some (.bool false)=>ev ρ y
    |_=>none
  |_=>none
theorem adb {P:Program} {ρ:aB} {o:Oper} {v:Value} (h:opV ρ o.op=some v):aH P ρ o v:=by
  cases ho:o.op with
  |move x=>rw[ho] at h;exact xr ho h
  |assign x=>rw[ho] at h;exact qZ ho h
  |nilCheck x=>
    rw[ho] at h;simp only[opV] at h;split at h
    · rename_i p hp;rw[←Option.some.inj h];exact as0 ho hp
    · cases h
  |extract x i=>
    rw[ho] at h;simp only[opV] at h;split at h
    · rename_i vs hv;exact as1 ho hv h
    · cases h
  |pick c x y=>
    rw[ho] at h;simp only[opV] at h;split at h
    · rename_i hc;exact Wt ho hc h
    · rename_i hc;exact Wu ho hc h
    · cases h
  |_=>rw[ho] at h;simp[opV] at h
def dstB (L:List Oper) (ρ:aB) (n:Nat) (o:Oper):Option Nat:=match want L ρ o with
  |some true=>match o.dst with
    |some d=>bif Nat.blt d n then some d else none
    |none=>none
  |_=>none
def stepV (L:List Oper) (ρ:aB) (n:Nat) (o:Oper):Option (Nat × Value):=match o.dst with
  |some d=>match Nat.blt d n with
    |true=>match want L ρ o with
      |some true=>match opV ρ o.op with
        |some v=>some (d,v)
        |none=>none
      |some false=>some (d,undef)
      |none=>none
    |false=>none
  |none=>none
def runV (L:List Oper) (n:Nat):Nat→List Oper→aB→Option (List Oper × aB)
  |0,rest,ρ=>some (rest,ρ)
  |k+1,o::rest,ρ=>match stepV L ρ n o with
    |some p=>runV L n k rest (p::ρ)
    |none=>none
  |_+1,[],_=>none
def nthO (i:Nat) (L:List Oper):Oper:=match nth i L with
  |some o=>o
  |none=>default
def B8 (L:List Oper) (ρ:aB) (n i:Nat):Option Nat:=match nth i L with
  |some o=>dstB L ρ n o
  |none=>none
def AO (L:List Oper) (ρ:aB) (n i:Nat):Option (Nat × Value):=match nth i L with
  |some o=>stepV L ρ n o
  |none=>none
def runP (L:List Oper) (n:Nat):Nat→List (Nat × Kd)→aB→Option (List (Nat × Kd) × aB)
  |0,os,ρ=>some (os,ρ)
  |k+1,(i,.y)::os,ρ=>match AO L ρ n i with
    |some p=>runP L n k os (p::ρ)
    |none=>none
  |_+1,_,_=>none
def runT (L:List Oper) (n:Nat):Nat→Pl→aB→Option (Pl × aB)
  |0,os,ρ=>some (os,ρ)
  |k+1,.st i false os,ρ=>match AO L ρ n i with
    |some p=>runT L n k os (p::ρ)
    |none=>none
  |_+1,_,_=>none
def adv (L:List Oper) (n:Nat):List Oper→aB→Option (List Oper × aB)
  |[],ρ=>some ([],ρ)
  |o::rest,ρ=>match stepV L ρ n o with
    |some p=>adv L n rest (p::ρ)
    |none=>some (o::rest,ρ)
def advY (L:List Oper) (n:Nat) (o:Oper) (v:Value) (rest:List Oper) (ρ:aB):Option (List Oper × aB):=match dstB L ρ n o with
  |some d=>adv L n rest ((d,v)::ρ)
  |none=>none
def advP (L:List Oper) (n:Nat):List (Nat × Kd)→aB→Option (List (Nat × Kd) × aB)
  |[],ρ=>some ([],ρ)
  |(i,.y)::os,ρ=>match AO L ρ n i with
    |some p=>advP L n os (p::ρ)
    |none=>some ((i,.y)::os,ρ)
  |(i,.r)::os,ρ=>some ((i,.r)::os,ρ)
  |(i,.e)::os,ρ=>some ((i,.e)::os,ρ)
def AP (L:List Oper) (n i:Nat) (v:Value) (os:List (Nat × Kd)) (ρ:aB):Option (List (Nat × Kd) × aB):=match B8 L ρ n i with
  |some d=>advP L n os ((d,v)::ρ)
  |none=>none
def advT (L:List Oper) (n:Nat):Pl→aB→Option (Pl × aB)
  | .st i false os,ρ=>match AO L ρ n i with
    |some p=>advT L n os (p::ρ)
    |none=>some (.st i false os,ρ)
  | .st i true os,ρ=>some (.st i true os,ρ)
  | .nil,ρ=>some (.nil,ρ)
  | .stop,ρ=>some (.stop,ρ)
  | .ef i x y,ρ=>some (.ef i x y,ρ)
  | .er i x y,ρ=>some (.er i x y,ρ)
def ry (L:List Oper) (n i:Nat) (v:Value) (os:Pl) (ρ:aB):Option (Pl × aB):=match B8 L ρ n i with
  |some d=>advT L n os ((d,v)::ρ)
  |none=>none
theorem lP {L:List Oper} {ρ:aB} {n d:Nat} {o:Oper} (h:dstB L ρ n o=some d):want L ρ o=some true∧o.dst=some d∧Nat.blt d n=true:=by
  unfold dstB at h;split at h
  · rename_i hw;split at h
    · rename_i d' hd;cases hb:Nat.blt d' n with
      |true=>rw[hb] at h;simp only[cond_true,Option.some.injEq] at h;subst h;exact⟨hw,hd,hb⟩
      |false=>rw[hb] at h;simp at h
    · cases h
  · cases h
theorem mO {P:Program} {L:List Oper} {ρ:aB} {n:Nat} {o:Oper} {p:Nat × Value} (h:stepV L ρ n o=some p):o.dst=some p.1∧Nat.blt p.1 n=true∧((want L ρ o=some true∧aH P ρ o p.2)∨(want L ρ o=some false∧p.2=undef)):=by
  unfold stepV at h;split at h
  · rename_i d hd;split at h
    · rename_i hb;split at h
      · rename_i hw;split at h
        · rename_i v hv;rw[←Option.some.inj h];exact⟨hd,hb,.inl ⟨hw,adb hv⟩⟩
        · cases h
      · rename_i hw;rw[←Option.some.inj h];exact⟨hd,hb,.inr ⟨hw,rfl⟩⟩
      · cases h
    · cases h
  · cases h
theorem jx {i:Nat} {L:List Oper} {o:Oper} (h:nth i L=some o):nthO i L=o:=by unfold nthO;rw[h]
theorem tX {L:List Oper} {ρ:aB} {n d i:Nat} (h:B8 L ρ n i=some d):nth i L=some (nthO i L)∧dstB L ρ n (nthO i L)=some d:=by
  unfold B8 at h;split at h
  · rename_i o ho;rw[jx ho];exact⟨ho,h⟩
  · cases h
theorem tY {L:List Oper} {ρ:aB} {n i:Nat} {p:Nat × Value} (h:AO L ρ n i=some p):nth i L=some (nthO i L)∧stepV L ρ n (nthO i L)=some p:=by
  unfold AO at h;split at h
  · rename_i o ho;rw[jx ho];exact⟨ho,h⟩
  · cases h
theorem Sub.ofMap {ρ:aB}:∀{ρ':aB},ρ'.map (fun p=>look p.1 ρ)=ρ'.map (fun p=>some p.2)→Sub ρ' ρ
  |[],_=>trivial
  |p::q,h=>by
    rw[List.map_cons,List.map_cons] at h;exact⟨(List.cons.inj h).1,Sub.ofMap (List.cons.inj h).2⟩
section
variable {P:Program} {K:Kx} {Q:Exit→Act→World→Prop} {ρ ρ':aB} {l r:List au} {L rest cI:List Oper} {o:Oper} {d i:Nat} {v:Value}
theorem Za (k:Nat) (g:GL P K Q L cI ρ' l r) (h:runV L K.n k rest ρ=some (cI,ρ'):=by exact rfl):GL P K Q L rest ρ l r:=by
  induction k generalizing rest ρ with
  |zero=>
    simp only[runV,Option.some.injEq,Prod.mk.injEq] at h;obtain⟨rfl,rfl⟩:=h;exact g
  |succ k ih=>
    cases rest with
    |nil=>simp[runV] at h
    |cons o rest=>
      simp only[runV] at h;split at h
      · rename_i p hp;obtain⟨h1,h2,h3⟩:=mO (P:=P) hp;have g':=ih h;rcases h3 with ⟨h4,h5⟩|⟨h4,h5⟩
        · exact GL.y h5 h4 h1 h2 g'
        · refine GL.skip h4 h1 h2 ?_;rw[←h5];exact g'
      · cases h
theorem Zr (h:n3 P ρ l r o v) (g:GL P K Q L rest ((d,v)::ρ) l r) (hs:dstB L ρ K.n o=some d:=by exact rfl):GL P K Q L (o::rest) ρ l r:=
  GL.rd h (lP hs).1 (lP hs).2.1 (lP hs).2.2 g
theorem Zy (h:aH P ρ o v) (g:GL P K Q L rest ((d,v)::ρ) l r) (hs:dstB L ρ K.n o=some d:=by exact rfl):GL P K Q L (o::rest) ρ l r:=Zr h.zw g hs
theorem Zs {X:aB} {Y:List au} (h:kC P K ρ l r o (fun ρ' l'=>ρ'=X∧l'=Y)) (g:GL P K Q L rest X Y r) (hw:want L ρ o=some true:=by exact rfl):GL P K Q L (o::rest) ρ l r:=
  GL.c8 h hw fun _ _ ⟨h1,h2⟩=>by subst h1;subst h2;exact g
theorem Ze {X:Nat→aB} {Y:Nat→List au} (h:kC P K ρ l r o (fun ρ' l'=>∃b,ρ'=X b∧l'=Y b)) (g:∀b,GL P K Q L rest (X b) (Y b) r) (hw:want L ρ o=some true:=by exact rfl):GL P K Q L (o::rest) ρ l r:=
  GL.c8 h hw fun _ _ ⟨b,h1,h2⟩=>by subst h1;subst h2;exact g b
theorem Ya (g:GL P K Q L cI ρ' l r) (h:adv L K.n rest ρ=some (cI,ρ'):=by exact rfl):GL P K Q L rest ρ l r:=by
  induction rest generalizing ρ with
  |nil=>simp only[adv,Option.some.injEq,Prod.mk.injEq] at h;obtain⟨rfl,rfl⟩:=h;exact g
  |cons o rest ih=>
    simp only[adv] at h;split at h
    · rename_i p hp;obtain⟨h1,h2,h3⟩:=mO (P:=P) hp;have g':=ih h;rcases h3 with ⟨h4,h5⟩|⟨h4,h5⟩
      · exact GL.y h5 h4 h1 h2 g'
      · refine GL.skip h4 h1 h2 ?_;rw[←h5];exact g'
    · simp only[Option.some.injEq,Prod.mk.injEq] at h;obtain⟨rfl,rfl⟩:=h;exact g
theorem Yr (h:n3 P ρ l r o v) (g:GL P K Q L cI ρ' l r) (hs:advY L K.n o v rest ρ=some (cI,ρ'):=by exact rfl):GL P K Q L (o::rest) ρ l r:=by
  unfold advY at hs;split at hs
  · rename_i d hd;exact Zr h (Ya g hs) hd
  · cases hs
theorem Yy (h:aH P ρ o v) (g:GL P K Q L cI ρ' l r) (hs:advY L K.n o v rest ρ=some (cI,ρ'):=by exact rfl):GL P K Q L (o::rest) ρ l r:=Yr h.zw g hs
theorem Ys {X:aB} {Y:List au} (h:kC P K ρ l r o (fun ρ' l'=>ρ'=X∧l'=Y)) (g:GL P K Q L cI ρ' Y r) (hw:want L ρ o=some true:=by exact rfl) (hs:adv L K.n rest X=some (cI,ρ'):=by exact rfl):GL P K Q L (o::rest) ρ l r:=Zs h (Ya g hs) hw
variable {os Ew:List (Nat × Kd)}
theorem Zpa (k:Nat) (g:GP P K Q L Ew ρ' l r) (h:runP L K.n k os ρ=some (Ew,ρ'):=by exact rfl):GP P K Q L os ρ l r:=by
  induction k generalizing os ρ with
  |zero=>
    simp only[runP,Option.some.injEq,Prod.mk.injEq] at h;obtain⟨rfl,rfl⟩:=h;exact g
  |succ k ih=>
    match os,h with
    |(i,.y)::os,h=>
      simp only[runP] at h;split at h
      · rename_i p hp;obtain⟨h0,Ws⟩:=tY hp;obtain⟨h1,h2,h3⟩:=mO (P:=P) Ws;have g':=ih h;rcases h3 with ⟨h4,h5⟩|⟨h4,h5⟩
        · exact GP.y h5 h0 h4 h1 h2 g'
        · refine GP.skip h0 h4 h1 h2 ?_;rw[←h5];exact g'
      · cases h
    |[],h=>simp[runP] at h
    |(i,.r)::os,h=>simp[runP] at h
    |(i,.e)::os,h=>simp[runP] at h
theorem Zpy (h:aH P ρ (nthO i L) v) (g:GP P K Q L os ((d,v)::ρ) l r) (hs:B8 L ρ K.n i=some d:=by exact rfl):GP P K Q L ((i,.y)::os) ρ l r:=by
  obtain⟨h0,h1⟩:=tX hs;obtain⟨h2,h3,h4⟩:=lP h1;exact GP.y h h0 h2 h3 h4 g
theorem Zpr (h:n3 P ρ l r (nthO i L) v) (g:GP P K Q L os ((d,v)::ρ) l r) (hs:B8 L ρ K.n i=some d:=by exact rfl):GP P K Q L ((i,.r)::os) ρ l r:=by
  obtain⟨h0,h1⟩:=tX hs;obtain⟨h2,h3,h4⟩:=lP h1;exact GP.rd h h0 h2 h3 h4 g
theorem w6 (g:GP P K Q L Ew ρ' l r) (h:advP L K.n os ρ=some (Ew,ρ'):=by exact rfl):GP P K Q L os ρ l r:=by
  induction os generalizing ρ with
  |nil=>simp only[advP,Option.some.injEq,Prod.mk.injEq] at h;obtain⟨rfl,rfl⟩:=h;exact g
  |cons o os ih=>
    obtain⟨i,k⟩:=o;cases k with
    |y=>
      simp only[advP] at h;split at h
      · rename_i p hp;obtain⟨h0,Ws⟩:=tY hp;obtain⟨h1,h2,h3⟩:=mO (P:=P) Ws;have g':=ih h;rcases h3 with ⟨h4,h5⟩|⟨h4,h5⟩
        · exact GP.y h5 h0 h4 h1 h2 g'
        · refine GP.skip h0 h4 h1 h2 ?_;rw[←h5];exact g'
      · simp only[Option.some.injEq,Prod.mk.injEq] at h;obtain⟨rfl,rfl⟩:=h;exact g
    |r=>simp only[advP,Option.some.injEq,Prod.mk.injEq] at h;obtain⟨rfl,rfl⟩:=h;exact g
    |e=>simp only[advP,Option.some.injEq,Prod.mk.injEq] at h;obtain⟨rfl,rfl⟩:=h;exact g
theorem aN (h:aH P ρ (nthO i L) v) (g:GP P K Q L Ew ρ' l r) (hs:AP L K.n i v os ρ=some (Ew,ρ'):=by exact rfl):GP P K Q L ((i,.y)::os) ρ l r:=by
  unfold AP at hs;split at hs
  · rename_i d hd;exact Zpy h (w6 g hs) hd
  · cases hs
theorem ko (h:n3 P ρ l r (nthO i L) v) (g:GP P K Q L Ew ρ' l r) (hs:AP L K.n i v os ρ=some (Ew,ρ'):=by exact rfl):GP P K Q L ((i,.r)::os) ρ l r:=by
  unfold AP at hs;split at hs
  · rename_i d hd;exact Zpr h (w6 g hs) hd
  · cases hs
def pB (L:List Oper) (ρ:aB) (i:Nat):Option Bool:=match nth i L with
  |some o=>want L ρ o
  |none=>none
theorem mP {L:List Oper} {ρ:aB} {i:Nat} {b:Bool} (h:pB L ρ i=some b):nth i L=some (nthO i L)∧want L ρ (nthO i L)=some b:=by
  unfold pB at h;split at h
  · rename_i o ho;rw[jx ho];exact⟨ho,h⟩
  · cases h
theorem zk {X:aB} {Y:List au} (h:kC P K ρ l r (nthO i L) (fun ρ' l'=>ρ'=X∧l'=Y)) (g:GP P K Q L os X Y r) (hw:pB L ρ i=some true:=by exact rfl):GP P K Q L ((i,.e)::os) ρ l r:=
  GP.c8 h (mP hw).1 (mP hw).2 fun _ _ ⟨h1,h2⟩=>by subst h1;subst h2;exact g
theorem Zpe {X:Nat→aB} {Y:Nat→List au} (h:kC P K ρ l r (nthO i L) (fun ρ' l'=>∃b,ρ'=X b∧l'=Y b)) (g:∀b,GP P K Q L os (X b) (Y b) r) (hw:pB L ρ i=some true:=by exact rfl):GP P K Q L ((i,.e)::os) ρ l r:=
  GP.c8 h (mP hw).1 (mP hw).2 fun _ _ ⟨b,h1,h2⟩=>by subst h1;subst h2;exact g b
theorem XS {X:aB} {Y:List au} (h:kC P K ρ l r (nthO i L) (fun ρ' l'=>ρ'=X∧l'=Y)) (g:GP P K Q L Ew ρ' Y r) (hw:pB L ρ i=some true:=by exact rfl) (hs:advP L K.n os X=some (Ew,ρ'):=by exact rfl):GP P K Q L ((i,.e)::os) ρ l r:=zk h (w6 g hs) hw
variable {pl wH alt:Pl}
theorem Zta (k:Nat) (g:GT P K Q L wH ρ' l r) (h:runT L K.n k pl ρ=some (wH,ρ'):=by exact rfl):GT P K Q L pl ρ l r:=by
  induction k generalizing pl ρ with
  |zero=>
    simp only[runT,Option.some.injEq,Prod.mk.injEq] at h;obtain⟨rfl,rfl⟩:=h;exact g
  |succ k ih=>
    match pl,h with
    | .st i false os,h=>
      simp only[runT] at h;split at h
      · rename_i p hp;obtain⟨h0,Ws⟩:=tY hp;obtain⟨h1,h2,h3⟩:=mO (P:=P) Ws;have g':=ih h;rcases h3 with ⟨h4,h5⟩|⟨h4,h5⟩
        · exact GT.y h5 h0 h4 h1 h2 g'
        · refine GT.skip h0 h4 h1 h2 ?_;rw[←h5];exact g'
      · cases h
    | .st i true os,h=>simp[runT] at h
    | .nil,h=>simp[runT] at h
    | .stop,h=>simp[runT] at h
    | .ef i a b,h=>simp[runT] at h
theorem Zty (h:aH P ρ (nthO i L) v) (g:GT P K Q L pl ((d,v)::ρ) l r) (hs:B8 L ρ K.n i=some d:=by exact rfl):GT P K Q L (.st i false pl) ρ l r:=by
  obtain⟨h0,h1⟩:=tX hs;obtain⟨h2,h3,h4⟩:=lP h1;exact GT.y h h0 h2 h3 h4 g
theorem Ztr (h:n3 P ρ l r (nthO i L) v) (g:GT P K Q L pl ((d,v)::ρ) l r) (hs:B8 L ρ K.n i=some d:=by exact rfl):GT P K Q L (.st i true pl) ρ l r:=by
  obtain⟨h0,h1⟩:=tX hs;obtain⟨h2,h3,h4⟩:=lP h1;exact GT.rd h h0 h2 h3 h4 g
theorem Yta (g:GT P K Q L wH ρ' l r) (h:advT L K.n pl ρ=some (wH,ρ'):=by exact rfl):GT P K Q L pl ρ l r:=by
  induction pl generalizing ρ with
  |st i k os ih=>
    cases k with
    |false=>
      simp only[advT] at h;split at h
      · rename_i p hp;obtain⟨h0,Ws⟩:=tY hp;obtain⟨h1,h2,h3⟩:=mO (P:=P) Ws;have g':=ih h;rcases h3 with ⟨h4,h5⟩|⟨h4,h5⟩
        · exact GT.y h5 h0 h4 h1 h2 g'
        · refine GT.skip h0 h4 h1 h2 ?_;rw[←h5];exact g'
      · simp only[Option.some.injEq,Prod.mk.injEq] at h;obtain⟨rfl,rfl⟩:=h;exact g
    |true=>simp only[advT,Option.some.injEq,Prod.mk.injEq] at h;obtain⟨rfl,rfl⟩:=h;exact g
  |_=>simp only[advT,Option.some.injEq,Prod.mk.injEq] at h;obtain⟨rfl,rfl⟩:=h;exact g
theorem w7 (h:aH P ρ (nthO i L) v) (g:GT P K Q L wH ρ' l r) (hs:ry L K.n i v pl ρ=some (wH,ρ'):=by exact rfl):GT P K Q L (.st i false pl) ρ l r:=by
  unfold ry at hs;split at hs
  · rename_i d hd;exact Zty h (Yta g hs) hd
  · cases hs
theorem vl (h:n3 P ρ l r (nthO i L) v) (g:GT P K Q L wH ρ' l r) (hs:ry L K.n i v pl ρ=some (wH,ρ'):=by exact rfl):GT P K Q L (.st i true pl) ρ l r:=by
  unfold ry at hs;split at hs
  · rename_i d hd;exact Ztr h (Yta g hs) hd
  · cases hs
theorem Ztx (h:n3 P ρ l r (nthO i L) v) (g:GT P K Q L pl ((d,v)::ρ) l r) (a:GT P K Q L alt ρ l r) (hs:B8 L ρ K.n i=some d:=by exact rfl):GT P K Q L (.ef i pl alt) ρ l r:=by
  obtain⟨h0,h1⟩:=tX hs;obtain⟨h2,h3,h4⟩:=lP h1;exact GT.erd h h0 h2 h3 h4 g a
theorem Zts {X:aB} {Y:List au} (h:kC P K ρ l r (nthO i L) (fun ρ' l'=>ρ'=X∧l'=Y)) (g:GT P K Q L pl X Y r) (a:GT P K Q L alt ρ l r) (hw:pB L ρ i=some true:=by exact rfl):GT P K Q L (.ef i pl alt) ρ l r:=
  GT.c8 h (mP hw).1 (mP hw).2 (fun _ _ ⟨h1,h2⟩=>by subst h1;subst h2;exact g) a
theorem Ytx (h:n3 P ρ l r (nthO i L) v) (g:GT P K Q L wH ρ' l r) (a:GT P K Q L alt ρ l r) (hs:ry L K.n i v pl ρ=some (wH,ρ'):=by exact rfl):GT P K Q L (.ef i pl alt) ρ l r:=by
  unfold ry at hs;split at hs
  · rename_i d hd;exact Ztx h (Yta g hs) a hd
  · cases hs
theorem Yts {X:aB} {Y:List au} (h:kC P K ρ l r (nthO i L) (fun ρ' l'=>ρ'=X∧l'=Y)) (g:GT P K Q L wH ρ' Y r) (a:GT P K Q L alt ρ l r) (hw:pB L ρ i=some true:=by exact rfl) (hs:advT L K.n pl X=some (wH,ρ'):=by exact rfl):GT P K Q L (.ef i pl alt) ρ l r:=Zts h (Yta g hs) a hw
theorem Ytu (h:n3 P ρ l r (nthO i L) v) (g:GT P K Q L wH ρ' l r) (hs:ry L K.n i v pl ρ=some (wH,ρ'):=by exact rfl):GT P K Q L (.ef i pl .stop) ρ l r:=Ytx h g GT.stop hs
theorem AQ {X:aB} {Y:List au} (h:kC P K ρ l r (nthO i L) (fun ρ' l'=>ρ'=X∧l'=Y)) (g:GT P K Q L wH ρ' Y r) (hw:pB L ρ i=some true:=by exact rfl) (hs:advT L K.n pl X=some (wH,ρ'):=by exact rfl):GT P K Q L (.ef i pl .stop) ρ l r:=Yts h g GT.stop hw hs
theorem Xtt {X:aB} {Y:List au} (h:kC P K ρ l r (nthO i L) (fun ρ' l'=>ρ'=X∧l'=Y)) (g:GT P K Q L pl X Y r) (hw:pB L ρ i=some true:=by exact rfl):GT P K Q L (.ef i pl .stop) ρ l r:=Zts h g GT.stop hw
end
section
variable {P:Program} {K:Kx} {Q:Exit→Act→World→Prop} {ρ ρ0:aB} {l r:List au} {L:List Oper} {x y z:Code} {id:Nat}
theorem Zn (h:G P K Q y ρ l r):GL P K (Exit.then (y.wp P Q) Q) L [] ρ l r:=GL.nil (GQ.aW h)
theorem Zw1 {id:Nat} {L2:List Oper} (h:GL P K Q L2 L2 ρ l r):GL P K (Exit.then ((Code.region id L2.toArray false).wp P Q) Q) L [] ρ l r:=Zn (G.region h)
theorem Zw2 {id:Nat} {L2:List Oper} (h:GL P K (Exit.then (y.wp P Q) Q) L2 L2 ρ l r):GL P K (Exit.then ((Code.seq (.region id L2.toArray false) y).wp P Q) Q) L [] ρ l r:=Zn (G.seq (G.region h))
theorem Zw3 {id:Nat} {L2:List Oper} (h:GL P K (Exit.then (y.wp P (Exit.then (z.wp P Q) Q)) (Exit.then (z.wp P Q) Q)) L2 L2 ρ l r):GL P K (Exit.then ((Code.seq (.seq (.region id L2.toArray false) y) z).wp P Q) Q) L [] ρ l r:=Zn (G.seq (G.seq (G.region h)))
theorem bN (h:G P K (Exit.then (y.wp P Q) Q) x ρ l r):GL P K (Exit.then ((Code.seq x y).wp P Q) Q) L [] ρ l r:=Zn (G.seq h)
theorem Zw5 {id:Nat} {L2:List Oper} (h:GL P K (Exit.then (y.wp P Q) Q) L2 L2 ρ l r):G P K Q (.seq (.region id L2.toArray false) y) ρ l r:=G.seq (G.region h)
theorem Zw6 {id:Nat} {L2:List Oper} (h:GL P K (Exit.then (y.wp P (Exit.then (z.wp P Q) Q)) (Exit.then (z.wp P Q) Q)) L2 L2 ρ l r):G P K Q (.seq (.seq (.region id L2.toArray false) y) z) ρ l r:=G.seq (G.seq (G.region h))
theorem gO (h:G P K Q y ρ l r):G P K (Exit.then (y.wp P Q) Q) .skip ρ l r:=G.skip (GQ.aW h)
theorem Zw8 {id:Nat} {L2:List Oper} (h:GL P K (Exit.then (y.wp P Q) Q) L2 L2 ρ l r):G P K (Exit.then ((Code.seq (.region id L2.toArray false) y).wp P Q) Q) .skip ρ l r:=gO (G.seq (G.region h))
theorem Zb {I:Nat→aB→List au→Prop} {n m:Nat} (hI:I m ρ0 l) (hm:m<n:=by omega) (hs:ρ0.map (fun p=>look p.1 ρ)=ρ0.map (fun p=>some p.2):=by exact rfl):GQ K (Exit.then (Nb K I r n) Q) .normal ρ l r:=GQ.back hm hI (Sub.ofMap hs)
theorem Zm {M:aB→List au→Prop} (hM:M ρ0 l) (hs:ρ0.map (fun p=>look p.1 ρ)=ρ0.map (fun p=>some p.2):=by exact rfl):GQ K (Exit.then (fun a w=>∃ρ l,M ρ l∧At K ρ l r a w) Q) .normal ρ l r:=GQ.meet hM (Sub.ofMap hs)
theorem Zo {c:Code} (I:Nat→aB→List au→Prop) {n:Nat} (h0:I n ρ0 l) (h:∀n ρ l,I n ρ l→G P K (Exit.then (Nb K I r n) Q) c ρ l r) (hs:ρ0.map (fun p=>look p.1 ρ)=ρ0.map (fun p=>some p.2):=by exact rfl):G P K Q (.loop c) ρ l r:=G.loop I h0 (Sub.ofMap hs) h
theorem Zc {c:Operand} {p:Prop} [Decidable p] (ht:p→G P K Q x ρ l r) (hf:¬p→G P K Q y ρ l r) (hc:ev ρ c=some (.bool (decide p)):=by exact rfl):G P K Q (.cond c x y) ρ l r:=G.Na hc ht hf
end
section
variable {P:Program} {K:Kx} {Q:Exit→Act→World→Prop} {ρ ρ':aB} {l r:List au} {L2 cI:List Oper} {L:List Oper} {x y z:Code} {id:Nat}
theorem YG (h:GL P K Q L2 cI ρ' l r) (hs:adv L2 K.n L2 ρ=some (cI,ρ'):=by exact rfl):G P K Q (.region id L2.toArray false) ρ l r:=G.region (Ya h hs)
theorem Y1 (h:GL P K Q L2 cI ρ' l r) (hs:adv L2 K.n L2 ρ=some (cI,ρ'):=by exact rfl):GL P K (Exit.then ((Code.region id L2.toArray false).wp P Q) Q) L [] ρ l r:=Zw1 (Ya h hs)
theorem Y2 (h:GL P K (Exit.then (y.wp P Q) Q) L2 cI ρ' l r) (hs:adv L2 K.n L2 ρ=some (cI,ρ'):=by exact rfl):GL P K (Exit.then ((Code.seq (.region id L2.toArray false) y).wp P Q) Q) L [] ρ l r:=Zw2 (Ya h hs)
theorem Y3 (h:GL P K (Exit.then (y.wp P (Exit.then (z.wp P Q) Q)) (Exit.then (z.wp P Q) Q)) L2 cI ρ' l r) (hs:adv L2 K.n L2 ρ=some (cI,ρ'):=by exact rfl):GL P K (Exit.then ((Code.seq (.seq (.region id L2.toArray false) y) z).wp P Q) Q) L [] ρ l r:=Zw3 (Ya h hs)
theorem Y5 (h:GL P K (Exit.then (y.wp P Q) Q) L2 cI ρ' l r) (hs:adv L2 K.n L2 ρ=some (cI,ρ'):=by exact rfl):G P K Q (.seq (.region id L2.toArray false) y) ρ l r:=Zw5 (Ya h hs)
theorem Y6 (h:GL P K (Exit.then (y.wp P (Exit.then (z.wp P Q) Q)) (Exit.then (z.wp P Q) Q)) L2 cI ρ' l r) (hs:adv L2 K.n L2 ρ=some (cI,ρ'):=by exact rfl):G P K Q (.seq (.seq (.region id L2.toArray false) y) z) ρ l r:=Zw6 (Ya h hs)
theorem Y8 (h:GL P K (Exit.then (y.wp P Q) Q) L2 cI ρ' l r) (hs:adv L2 K.n L2 ρ=some (cI,ρ'):=by exact rfl):G P K (Exit.then ((Code.seq (.region id L2.toArray false) y).wp P Q) Q) .skip ρ l r:=Zw8 (Ya h hs)
end
section
variable {P:Program} {ρ:aB} {o:Oper} {x y:Operand} {s f n t b q len cap sz:Nat} {l r:List au} {v:Value} {k k':IntKind} {ty bY:TypeId}
theorem Zf (hP:fieldOff P s f=some n) (ho:o.op=.fieldAddr s x f:=by exact rfl) (hx:ev ρ x=some (.pointer (some ⟨b,q,none⟩)):=by exact rfl):aH P ρ o (.pointer (some ⟨b,q+n,none⟩)):=ajH ho hx hP
theorem tZ {p:Option Addr} {a:Call} {s:Nat} (hu:P.underlying t=some (.slice s)) (ho:o.op=.call a:=by exact rfl) (hc:a.callee=.builtin .len:=by exact rfl) (hx:evs ρ a.args.toList=some [.slice p len cap]:=by exact rfl) (ht:a.argTypes= #[t]:=by exact rfl):aH P ρ o (.int .i64 ((len:Nat):Int)):=Z8 ho hc hx ht hu
theorem rA (m n:Nat) (ho:o.op=.binOp .lss ty x y bY:=by exact rfl) (hx:ev ρ x=some (.int k ((m:Nat):Int)):=by exact rfl) (hy:ev ρ y=some (.int k ((n:Nat):Int)):=by exact rfl):aH P ρ o (.bool (decide (((m:Nat):Int)<((n:Nat):Int)))):=Gj ho hx hy
theorem Zle (m n:Nat) (ho:o.op=.binOp .leq ty x y bY:=by exact rfl) (hx:ev ρ x=some (.int k ((m:Nat):Int)):=by exact rfl) (hy:ev ρ y=some (.int k ((n:Nat):Int)):=by exact rfl):aH P ρ o (.bool (decide (((m:Nat):Int)≤((n:Nat):Int)))):=Wv ho hx hy
theorem zl (m n:Nat) (ho:o.op=.binOp .gtr ty x y bY:=by exact rfl) (hx:ev ρ x=some (.int k ((m:Nat):Int)):=by exact rfl) (hy:ev ρ y=some (.int k ((n:Nat):Int)):=by exact rfl):aH P ρ o (.bool (decide (((n:Nat):Int)<((m:Nat):Int)))):=Nf ho hx hy
theorem v8 (m n:Nat) (ho:o.op=.binOp .geq ty x y bY:=by exact rfl) (hx:ev ρ x=some (.int k ((m:Nat):Int)):=by exact rfl) (hy:ev ρ y=some (.int k ((n:Nat):Int)):=by exact rfl):aH P ρ o (.bool (decide (((n:Nat):Int)≤((m:Nat):Int)))):=Ng ho hx hy
theorem C6 (m n:Nat) (ho:o.op=.binOp .eql ty x y bY:=by exact rfl) (hx:ev ρ x=some (.int k ((m:Nat):Int)):=by exact rfl) (hy:ev ρ y=some (.int k ((n:Nat):Int)):=by exact rfl):aH P ρ o (.bool (decide (((m:Nat):Int)=((n:Nat):Int)))):=xt ho hx hy
theorem Ex (m n:Nat) (ho:o.op=.binOp .neq ty x y bY:=by exact rfl) (hx:ev ρ x=some (.int k ((m:Nat):Int)):=by exact rfl) (hy:ev ρ y=some (.int k ((n:Nat):Int)):=by exact rfl):aH P ρ o (.bool (decide (((m:Nat):Int)≠((n:Nat):Int)))):=as2 ho hx hy
theorem Zq {A:Nat} (B:Nat) (h:aH P ρ o (.int k ((A:Nat):Int))) (e:A=B:=by omega):aH P ρ o (.int k ((B:Nat):Int)):=e▸h
theorem mY {A:Nat} (B:Nat) (h:n3 P ρ l r o (.int k ((A:Nat):Int))) (e:A=B:=by omega):n3 P ρ l r o (.int k ((B:Nat):Int)):=e▸h
theorem Zx (q' m:Nat) (hP:cJ P t=some 1) (ho:o.op=.indexAddr t x y:=by exact rfl) (hx:ev ρ x=some (.slice (some ⟨b,q,none⟩) len cap):=by exact rfl) (hy:ev ρ y=some (.int k (m:Nat)):=by exact rfl) (h:m<len:=by omega) (hq:q+m=q':=by omega):aH P ρ o (.pointer (some ⟨b,q',none⟩)):=ZU ho hx hy hP h hq
theorem ua (q' m:Nat) (hP:gX P t=some (n,sz)) (ho:o.op=.indexAddr t x y:=by exact rfl) (hx:ev ρ x=some (.pointer (some ⟨b,q,none⟩)):=by exact rfl) (hy:ev ρ y=some (.int k (m:Nat)):=by exact rfl) (h:m<n:=by omega) (hq:q+m*sz=q':=by omega):aH P ρ o (.pointer (some ⟨b,q',none⟩)):=ab1 ho hx hy hP h hq
theorem zm (q' m:Nat) (hP:gX P t=some (n,1)) (ho:o.op=.indexAddr t x y:=by exact rfl) (hx:ev ρ x=some (.pointer (some ⟨b,q,none⟩)):=by exact rfl) (hy:ev ρ y=some (.int k (m:Nat)):=by exact rfl) (h:m<n:=by omega) (hq:q+m=q':=by omega):aH P ρ o (.pointer (some ⟨b,q',none⟩)):=ZV ho hx hy hP h hq
theorem Zl {sg:au} (i j:Nat) (hP:mv P t=some false) (hs:nthS i l=some sg:=by exact rfl) (ho:o.op=.load t x:=by exact rfl) (hx:ev ρ x=some (.pointer (some ⟨sg.b,q,none⟩)):=by exact rfl) (hq:q=sg.o+j:=by exact rfl) (hc:sg.cs[j]? =some v:=by exact rfl):n3 P ρ l r o v:=dy i j hs ho hx hP hq hc
theorem Zk {sg:au} (i j:Nat) (hP:mv P t=some false) (hs:nthS i r=some sg:=by exact rfl) (ho:o.op=.load t x:=by exact rfl) (hx:ev ρ x=some (.pointer (some ⟨sg.b,q,none⟩)):=by exact rfl) (hq:q=sg.o+j:=by exact rfl) (hc:sg.cs[j]? =some v:=by exact rfl):n3 P ρ l r o v:=n4 i j hs ho hx hP hq hc
theorem w8 {sg:au} (i j:Nat) (hP:mv P t=some false) (hs:nthS i l=some sg) (hc:sg.cs[j]? =some v) (ho:o.op=.load t x:=by exact rfl) (hx:ev ρ x=some (.pointer (some ⟨sg.b,q,none⟩)):=by exact rfl) (hq:q=sg.o+j:=by exact rfl):n3 P ρ l r o v:=dy i j hs ho hx hP hq hc
theorem iz {sg:au} (i j:Nat) (hP:mv P t=some false) (hs:nthS i r=some sg) (hc:sg.cs[j]? =some v) (ho:o.op=.load t x:=by exact rfl) (hx:ev ρ x=some (.pointer (some ⟨sg.b,q,none⟩)):=by exact rfl) (hq:q=sg.o+j:=by exact rfl):n3 P ρ l r o v:=n4 i j hs ho hx hP hq hc
theorem LR {sg:au} {vs:List Value} {n:Nat} (i j:Nat) (hP:mv P t=some true) (hz:eW P t=some n) (hs:nthS i l=some sg:=by exact rfl) (ho:o.op=.load t x:=by exact rfl) (hx:ev ρ x=some (.pointer (some ⟨sg.b,q,none⟩)):=by exact rfl) (hq:q=sg.o+j:=by exact rfl) (hv:(sg.cs.drop j).take n=vs:=by exact rfl) (hn:vs.length=n:=by exact rfl):n3 P ρ l r o (.agg vs.toArray):=jk i j hs ho hx hP hz hq hv hn
end
section
variable {P:Program} {K:Kx} {ρ:aB} {l r:List au} {o:Oper} {x y:Operand} {t q n:Nat} {v:Value}
theorem gg {sg:au} (i j:Nat) (hP:eW P t=some 1) (hs:nthS i l=some sg:=by exact rfl) (ho:o.op=.store t x y:=by exact rfl) (hx:ev ρ x=some (.pointer (some ⟨sg.b,q,none⟩)):=by exact rfl) (hy:ev ρ y=some v:=by exact rfl) (hv:v.oneCell'=true:=by exact rfl) (hq:q=sg.o+j:=by exact rfl) (hj:Nat.ble (j+1) sg.cs.length=true:=by exact rfl) (hd:o.dst=none:=by exact rfl):kC P K ρ l r o (fun ρ' l'=>ρ'=ρ∧l'=setS i ⟨sg.b,sg.o,sg.cs.set j v,sg.sh⟩ l):=iY i j hs ho hx hy hP hv hq (Nat.le_of_ble_eq_true hj) hd rfl
end
theorem Ov {p:Prop} (h:p:=by first|rfl|simp[Instr.fill,Value.cells,uV,uW,uX]):p:=h
section
variable {P:Program} {K:Kx} {ρ:aB} {l r:List au} {o:Oper} {x y:Operand} {t q n b off v d f:Nat} {k k':IntKind} {D:List Nat} {sh:Option (TypeId × Nat)}
theorem Zsu (i j:Nat) (hP:eW P t=some 1) (hs:nthS i l=some ⟨b,off,aa k D,sh⟩:=by exact rfl) (ho:o.op=.store t x y:=by exact rfl) (hx:ev ρ x=some (.pointer (some ⟨b,q,none⟩)):=by exact rfl) (hy:ev ρ y=some (.int k ((v:Nat):Int)):=by exact rfl) (hd:o.dst=none:=by exact rfl)
    (hq:q=off+j:=by first|rfl|exact(Nat.zero_add _).symm|omega) (hj:j<D.length:=by first|omega|(simp;omega)|simp):kC P K ρ l r o (fun ρ' l'=>ρ'=ρ∧l'=setS i ⟨b,off,aa k (D.set j v),sh⟩ l):=
  iY i j hs ho hx hy hP rfl hq (by rw[bJ];exact hj) hd (s6 _ _ _ _)
theorem Zsa (i j:Nat) (hP:eW P t=some 1) (hs:nthS i l=some ⟨b,off,aa k D,sh⟩:=by exact rfl) (ho:o.op=.store t x y:=by exact rfl) (hx:ev ρ x=some (.pointer (some ⟨b,q,none⟩)):=by exact rfl) (hy:ev ρ y=some (.agg #[.int k ((v:Nat):Int)]):=by exact rfl) (hd:o.dst=none:=by exact rfl)
    (hq:q=off+j:=by first|rfl|exact(Nat.zero_add _).symm|omega) (hj:j<D.length:=by first|omega|(simp;omega)|simp):kC P K ρ l r o (fun ρ' l'=>ρ'=ρ∧l'=setS i ⟨b,off,aa k (D.set j v),sh⟩ l):=
  kD (vs:=[.int k ((v:Nat):Int)]) i j hs ho hx hy hP rfl rfl hq (by show j+1≤(aa k D).length;rw[bJ];exact hj) hd (by show(aa k D).set j _=_;exact s6 _ _ _ _)
theorem iA {sg:au} {vs:List Value} (i:Nat) (hP:eW P t=some n) (hs:nthS i l=some sg:=by exact rfl) (ho:o.op=.store t x y:=by exact rfl) (hx:ev ρ x=some (.pointer (some ⟨sg.b,q,none⟩)):=by exact rfl) (hy:ev ρ y=some (.agg vs.toArray):=by exact rfl) (hd:o.dst=none:=by exact rfl) (hq:q=sg.o:=by exact rfl)
    (hn:vs.length=n:=by exact rfl) (hv:(vs.all fun u=>u.oneCell')=true:=by exact rfl) (hj:Nat.ble n sg.cs.length=true:=by exact rfl) (hc:spl sg.cs 0 vs=vs:=by exact rfl):kC P K ρ l r o (fun ρ' l'=>ρ'=ρ∧l'=setS i ⟨sg.b,sg.o,vs,sg.sh⟩ l):=
  kD i 0 hs ho hx hy hP hn hv hq (by rw[Nat.zero_add];exact Nat.le_of_ble_eq_true hj) hd hc
theorem iN {cs:List Value} (hz:vH P t=some cs) (ho:o.op=.alloc t:=by exact rfl) (hd:o.dst=some d:=by exact rfl) (hn:Nat.blt d K.n=true:=by exact rfl):
    kC P K ρ l r o (fun ρ' l'=>∃b,ρ'=(d,.pointer (some ⟨b,0,none⟩))::ρ∧l'=⟨b,0,cs,none⟩::l):=as4 ho hz hd hn
def callW (L:List Oper) (o:Oper) (n:Nat) (ρ:aB) (l r:List au) (is rs:List Nat):Option (Nat × FuncId × List Value × List au × List au × List au):=match want L ρ o with
  |some true=>match o.op with
    | .call c=>match c.callee with
      | .value (.func f)=>match evs ρ c.args.toList with
        |some args=>match pickS is l with
          |some (lc,rest)=>match pickR rs (rest++r) with
            |some rc=>match o.dst with
              |some d=>match Nat.blt d n with
                |true=>some (d,f,args,lc,rest,rc)
                |false=>none
              |none=>none
            |none=>none
          |none=>none
        |none=>none
      |_=>none
    |_=>none
  |_=>none
def AR (L:List Oper) (i n:Nat) (ρ:aB) (l r:List au) (is rs:List Nat):Option (Nat × FuncId × List Value × List au × List au × List au):=match nth i L with
  |some o=>callW L o n ρ l r is rs
  |none=>none
theorem mQ {f:FuncId} {L:List Oper} {is rs:List Nat} {args:List Value} {lc rest rc:List au} {dz:Value→List au→Prop} (h:callW L o K.n ρ l r is rs=some (d,f,args,lc,rest,rc)) (uJ:aE P f args lc rc dz):
    want L ρ o=some true∧kC P K ρ l r o (fun ρ' l'=>∃v wy,dz v wy∧ρ'=(d,v)::ρ∧l'=wy++rest):=by
  unfold callW at h;repeat' split at h
  all_goals first
    |(cases h;exact⟨Oa,gm is rs uJ Oa Oa Oa Oa Oa Oa Oa⟩)
    |cases h
theorem mR {L:List Oper} {i:Nat} {is rs:List Nat} {z:Nat × FuncId × List Value × List au × List au × List au} (h:AR L i n ρ l r is rs=some z):nth i L=some (nthO i L)∧callW L (nthO i L) n ρ l r is rs=some z:=by
  unfold AR at h;split at h
  · rename_i o ho;rw[jx ho];exact⟨ho,h⟩
  · cases h
variable {Q:Exit→Act→World→Prop} {L rest:List Oper} {fi:FuncId} {args:List Value} {lc l2 rc l1:List au} {u:Value} {dz:Value→List au→Prop} {i:Nat} {os:List (Nat × Kd)} {pl alt:Pl}
theorem cF (is rs:List Nat) (uJ:aE P fi args lc rc dz) (hc:callW L o K.n ρ l r is rs=some (d,fi,args,lc,l2,rc)) (g:∀v l1,dz v l1→GL P K Q L rest ((d,v)::ρ) (l1++l2) r):GL P K Q L (o::rest) ρ l r:=
  GL.c8 (mQ hc uJ).2 (mQ hc uJ).1 fun _ _ ⟨v,l1,h,h1,h2⟩=>by subst h1;subst h2;exact g v l1 h
theorem cq (is rs:List Nat) (uJ:aE P fi args lc rc (fun v l'=>v=u∧l'=l1)) (hc:callW L o K.n ρ l r is rs=some (d,fi,args,lc,l2,rc)) (g:GL P K Q L rest ((d,u)::ρ) (l1++l2) r):GL P K Q L (o::rest) ρ l r:=
  cF is rs uJ hc fun _ _ ⟨h1,h2⟩=>by subst h1;subst h2;exact g
theorem ade (is rs:List Nat) (uJ:aE P fi args lc rc dz) (hc:AR L i K.n ρ l r is rs=some (d,fi,args,lc,l2,rc)) (g:∀v l1,dz v l1→GP P K Q L os ((d,v)::ρ) (l1++l2) r):GP P K Q L ((i,.e)::os) ρ l r:=
  GP.c8 (mQ (mR hc).2 uJ).2 (mR hc).1 (mQ (mR hc).2 uJ).1 fun _ _ ⟨v,l1,h,h1,h2⟩=>by subst h1;subst h2;exact g v l1 h
theorem eu (is rs:List Nat) (uJ:aE P fi args lc rc (fun v l'=>v=u∧l'=l1)) (hc:AR L i K.n ρ l r is rs=some (d,fi,args,lc,l2,rc)) (g:GP P K Q L os ((d,u)::ρ) (l1++l2) r):GP P K Q L ((i,.e)::os) ρ l r:=
  ade is rs uJ hc fun _ _ ⟨h1,h2⟩=>by subst h1;subst h2;exact g
theorem pC (is rs:List Nat) (uJ:aE P fi args lc rc dz) (hc:AR L i K.n ρ l r is rs=some (d,fi,args,lc,l2,rc)) (g:∀v l1,dz v l1→GT P K Q L pl ((d,v)::ρ) (l1++l2) r) (a:GT P K Q L alt ρ l r):GT P K Q L (.ef i pl alt) ρ l r:=
  GT.c8 (mQ (mR hc).2 uJ).2 (mR hc).1 (mQ (mR hc).2 uJ).1 (fun _ _ ⟨v,l1,h,h1,h2⟩=>by subst h1;subst h2;exact g v l1 h) a
theorem fJ (is rs:List Nat) (uJ:aE P fi args lc rc (fun v l'=>v=u∧l'=l1)) (hc:AR L i K.n ρ l r is rs=some (d,fi,args,lc,l2,rc)) (g:GT P K Q L pl ((d,u)::ρ) (l1++l2) r) (a:GT P K Q L alt ρ l r):GT P K Q L (.ef i pl alt) ρ l r:=
  pC is rs uJ hc (fun _ _ ⟨h1,h2⟩=>by subst h1;subst h2;exact g) a
theorem Zi {fn:Func} {c:Code} (hf:P.funcs[fi]? =some fn) (hb:fn.body=some c) (h:∀w0,G P ⟨fn.ntmps,l,w0⟩ (bodyPost P fn (Ends dz l r w0)) c (frArgs 0 args) l r) (N1:(fn.name== "runtime.NumGoroutine")=false:=by kernel_rfl) (hn:Nat.ble args.length fn.ntmps=true:=by exact rfl):aE P fi args l r dz:=
  aE.intro hf hb N1 (Nat.le_of_ble_eq_true hn) h
theorem ZR {X:Act→World→Prop} (h:GQ K Q .ret ρ l r):GQ K (Exit.then X Q) .ret ρ l r:=h
theorem ZB {X:Nat} (h:GQ K Q .ret ρ l r):GQ K (Exit.inBlock X Q) .ret ρ l r:=h
end
abbrev YS (i:Nat) (p:Pl):Pl:=.st i false p
abbrev YE (i:Nat) (p q:Pl):Pl:=.ef i p q
abbrev YF (i:Nat) (p:Pl):Pl:=.ef i p .stop
abbrev bV:=Option (TypeId × Nat)
abbrev Va (x:Nat):Value:=.int .u8 ((x:Nat):Int)
abbrev Vb (x:Nat):Value:=.int .u16 ((x:Nat):Int)
abbrev Vc (x:Nat):Value:=.int .u32 ((x:Nat):Int)
abbrev Vd (x:Nat):Value:=.int .u64 ((x:Nat):Int)
abbrev Ve (x:Nat):Value:=.int .i8 ((x:Nat):Int)
abbrev Vf (x:Nat):Value:=.int .i16 ((x:Nat):Int)
abbrev Vg (x:Nat):Value:=.int .i32 ((x:Nat):Int)
abbrev Vh (x:Nat):Value:=.int .i64 ((x:Nat):Int)
abbrev Vn:Value:=.slice none 0 0
abbrev Vp (b o:Nat):Value:=.pointer (some ⟨b,o,none⟩)
abbrev Vs (b o n c:Nat):Value:=.slice (some ⟨b,o,none⟩) n c
section
variable {P:Program} {ρ:aB} {o:Oper} {x y:Operand} {ty bY:TypeId}
theorem ir (m n:Nat) (ho:o.op=.binOp .add ty x y bY:=by exact rfl) (hx:ev ρ x=some (.int .u8 (m:Nat)):=by exact rfl) (hy:ev ρ y=some (.int .u8 (n:Nat)):=by exact rfl) (h:m+n≤255:=by omega):aH P ρ o (.int .u8 ((m+n:Nat):Int)):=WG ho hx hy h
theorem P5 (m n:Nat) (ho:o.op=.binOp .add ty x y bY:=by exact rfl) (hx:ev ρ x=some (.int .u16 (m:Nat)):=by exact rfl) (hy:ev ρ y=some (.int .u16 (n:Nat)):=by exact rfl) (h:m+n≤65535:=by omega):aH P ρ o (.int .u16 ((m+n:Nat):Int)):=Nz ho hx hy h
theorem B9 (m n:Nat) (ho:o.op=.binOp .add ty x y bY:=by exact rfl) (hx:ev ρ x=some (.int .u32 (m:Nat)):=by exact rfl) (hy:ev ρ y=some (.int .u32 (n:Nat)):=by exact rfl) (h:m+n≤4294967295:=by omega):aH P ρ o (.int .u32 ((m+n:Nat):Int)):=NH ho hx hy h
theorem adf (m n:Nat) (ho:o.op=.binOp .add ty x y bY:=by exact rfl) (hx:ev ρ x=some (.int .u64 (m:Nat)):=by exact rfl) (hy:ev ρ y=some (.int .u64 (n:Nat)):=by exact rfl) (h:m+n≤18446744073709551615:=by omega):aH P ρ o (.int .u64 ((m+n:Nat):Int)):=NS ho hx hy h
theorem vm (m n:Nat) (ho:o.op=.binOp .add ty x y bY:=by exact rfl) (hx:ev ρ x=some (.int .i16 (m:Nat)):=by exact rfl) (hy:ev ρ y=some (.int .i16 (n:Nat)):=by exact rfl) (h:m+n≤32767:=by omega):aH P ρ o (.int .i16 ((m+n:Nat):Int)):=Nh ho hx hy h
theorem adg (m n:Nat) (ho:o.op=.binOp .add ty x y bY:=by exact rfl) (hx:ev ρ x=some (.int .i32 (m:Nat)):=by exact rfl) (hy:ev ρ y=some (.int .i32 (n:Nat)):=by exact rfl) (h:m+n≤2147483647:=by omega):aH P ρ o (.int .i32 ((m+n:Nat):Int)):=Nm ho hx hy h
theorem aF (m n:Nat) (ho:o.op=.binOp .add ty x y bY:=by exact rfl) (hx:ev ρ x=some (.int .i64 (m:Nat)):=by exact rfl) (hy:ev ρ y=some (.int .i64 (n:Nat)):=by exact rfl) (h:m+n≤9223372036854775807:=by omega):aH P ρ o (.int .i64 ((m+n:Nat):Int)):=Ns ho hx hy h
theorem vn (m n:Nat) (ho:o.op=.binOp .add ty x y bY:=by exact rfl) (hx:ev ρ x=some (.int .u8 (m:Nat)):=by exact rfl) (hy:ev ρ y=some (.int .u8 (n:Nat)):=by exact rfl):aH P ρ o (.int .u8 (((m+n)%256:Nat):Int)):=WO ho hx hy
theorem fY (m n:Nat) (ho:o.op=.binOp .and ty x y bY:=by exact rfl) (hx:ev ρ x=some (.int .u8 (m:Nat)):=by exact rfl) (hy:ev ρ y=some (.int .u8 (n:Nat)):=by exact rfl) (h:m<256∨n<256:=by omega) (hm:m<256:=by omega) (hn:n<256:=by omega):aH P ρ o (.int .u8 ((m&&&n:Nat):Int)):=WJ ho hx hy h hm hn
theorem aU (m n:Nat) (ho:o.op=.binOp .and ty x y bY:=by exact rfl) (hx:ev ρ x=some (.int .u16 (m:Nat)):=by exact rfl) (hy:ev ρ y=some (.int .u16 (n:Nat)):=by exact rfl) (h:m<65536∨n<65536:=by omega) (hm:m<65536:=by omega) (hn:n<65536:=by omega):aH P ρ o (.int .u16 ((m&&&n:Nat):Int)):=NC ho hx hy h hm hn
theorem gD (m n:Nat) (ho:o.op=.binOp .and ty x y bY:=by exact rfl) (hx:ev ρ x=some (.int .u32 (m:Nat)):=by exact rfl) (hy:ev ρ y=some (.int .u32 (n:Nat)):=by exact rfl) (h:m<4294967296∨n<4294967296:=by omega) (hm:m<4294967296:=by omega) (hn:n<4294967296:=by omega):aH P ρ o (.int .u32 ((m&&&n:Nat):Int)):=NK ho hx hy h hm hn
theorem lz (m n:Nat) (ho:o.op=.binOp .and ty x y bY:=by exact rfl) (hx:ev ρ x=some (.int .u64 (m:Nat)):=by exact rfl) (hy:ev ρ y=some (.int .u64 (n:Nat)):=by exact rfl) (h:m<18446744073709551616∨n<18446744073709551616:=by omega) (hm:m<18446744073709551616:=by omega) (hn:n<18446744073709551616:=by omega):aH P ρ o (.int .u64 ((m&&&n:Nat):Int)):=NV ho hx hy h hm hn
theorem B' (m n:Nat) (ho:o.op=.binOp .and ty x y bY:=by exact rfl) (hx:ev ρ x=some (.int .i64 (m:Nat)):=by exact rfl) (hy:ev ρ y=some (.int .i64 (n:Nat)):=by exact rfl) (h:m<9223372036854775808∨n<9223372036854775808:=by omega) (hm:m<18446744073709551616:=by omega) (hn:n<18446744073709551616:=by omega):aH P ρ o (.int .i64 ((m&&&n:Nat):Int)):=Nv ho hx hy h hm hn
theorem LS (m n:Nat) (ho:o.op=.binOp .andNot ty x y bY:=by exact rfl) (hx:ev ρ x=some (.int .u64 (m:Nat)):=by exact rfl) (hy:ev ρ y=some (.int .u64 (n:Nat)):=by exact rfl) (hm:m<18446744073709551616:=by omega) (hn:n<18446744073709551616:=by omega):aH P ρ o (.int .u64 ((m&&&(18446744073709551615-n):Nat):Int)):=Dw ho hx hy hm hn
theorem akD (m:Nat) {s t:TypeId} {D:TypeDesc} {k:IntKind} (hs:P.underlying s=some D) (ht:P.underlying t=some (.int .u8)) (ho:o.op=.convert s t x:=by exact rfl) (hx:ev ρ x=some (.int k (m:Nat)):=by exact rfl) (h:m≤255:=by omega):aH P ρ o (.int .u8 ((m:Nat):Int)):=abZ ho hs ht hx h
theorem aam (m:Nat) {s t:TypeId} {D:TypeDesc} {k:IntKind} (hs:P.underlying s=some D) (ht:P.underlying t=some (.int .u16)) (ho:o.op=.convert s t x:=by exact rfl) (hx:ev ρ x=some (.int k (m:Nat)):=by exact rfl) (h:m≤65535:=by omega):aH P ρ o (.int .u16 ((m:Nat):Int)):=WT ho hs ht hx h
theorem aan (m:Nat) {s t:TypeId} {D:TypeDesc} {k:IntKind} (hs:P.underlying s=some D) (ht:P.underlying t=some (.int .u32)) (ho:o.op=.convert s t x:=by exact rfl) (hx:ev ρ x=some (.int k (m:Nat)):=by exact rfl) (h:m≤4294967295:=by omega):aH P ρ o (.int .u32 ((m:Nat):Int)):=WV ho hs ht hx h
theorem ub (m:Nat) {s t:TypeId} {D:TypeDesc} {k:IntKind} (hs:P.underlying s=some D) (ht:P.underlying t=some (.int .u64)) (ho:o.op=.convert s t x:=by exact rfl) (hx:ev ρ x=some (.int k (m:Nat)):=by exact rfl) (h:m≤18446744073709551615:=by omega):aH P ρ o (.int .u64 ((m:Nat):Int)):=WX ho hs ht hx h
theorem akE (m:Nat) {s t:TypeId} {D:TypeDesc} {k:IntKind} (hs:P.underlying s=some D) (ht:P.underlying t=some (.int .i8)) (ho:o.op=.convert s t x:=by exact rfl) (hx:ev ρ x=some (.int k (m:Nat)):=by exact rfl) (h:m≤127:=by omega):aH P ρ o (.int .i8 ((m:Nat):Int)):=abY ho hs ht hx h
theorem akF (m:Nat) {s t:TypeId} {D:TypeDesc} {k:IntKind} (hs:P.underlying s=some D) (ht:P.underlying t=some (.int .i16)) (ho:o.op=.convert s t x:=by exact rfl) (hx:ev ρ x=some (.int k (m:Nat)):=by exact rfl) (h:m≤32767:=by omega):aH P ρ o (.int .i16 ((m:Nat):Int)):=Wx ho hs ht hx h
theorem akG (m:Nat) {s t:TypeId} {D:TypeDesc} {k:IntKind} (hs:P.underlying s=some D) (ht:P.underlying t=some (.int .i32)) (ho:o.op=.convert s t x:=by exact rfl) (hx:ev ρ x=some (.int k (m:Nat)):=by exact rfl) (h:m≤2147483647:=by omega):aH P ρ o (.int .i32 ((m:Nat):Int)):=WA ho hs ht hx h
theorem Kv (m:Nat) {s t:TypeId} {D:TypeDesc} {k:IntKind} (hs:P.underlying s=some D) (ht:P.underlying t=some (.int .i64)) (ho:o.op=.convert s t x:=by exact rfl) (hx:ev ρ x=some (.int k (m:Nat)):=by exact rfl) (h:m≤9223372036854775807:=by omega):aH P ρ o (.int .i64 ((m:Nat):Int)):=WD ho hs ht hx h
theorem az (m:Nat) {s t:TypeId} {D:TypeDesc} {k:IntKind} (hs:P.underlying s=some D) (ht:P.underlying t=some (.int .u8)) (ho:o.op=.convert s t x:=by exact rfl) (hx:ev ρ x=some (.int k (m:Nat)):=by exact rfl):aH P ρ o (.int .u8 ((m%256:Nat):Int)):=ab0 ho hs ht hx
theorem akH (m:Nat) {s t:TypeId} {D:TypeDesc} {k:IntKind} (hs:P.underlying s=some D) (ht:P.underlying t=some (.int .u16)) (ho:o.op=.convert s t x:=by exact rfl) (hx:ev ρ x=some (.int k (m:Nat)):=by exact rfl):aH P ρ o (.int .u16 ((m%65536:Nat):Int)):=WU ho hs ht hx
theorem akI (m:Nat) {s t:TypeId} {D:TypeDesc} {k:IntKind} (hs:P.underlying s=some D) (ht:P.underlying t=some (.int .u32)) (ho:o.op=.convert s t x:=by exact rfl) (hx:ev ρ x=some (.int k (m:Nat)):=by exact rfl):aH P ρ o (.int .u32 ((m%4294967296:Nat):Int)):=WW ho hs ht hx
theorem adh (m n:Nat) (ho:o.op=.binOp .mul ty x y bY:=by exact rfl) (hx:ev ρ x=some (.int .u8 (m:Nat)):=by exact rfl) (hy:ev ρ y=some (.int .u8 (n:Nat)):=by exact rfl) (h:m*n≤255:=by omega):aH P ρ o (.int .u8 ((m*n:Nat):Int)):=WH ho hx hy h
theorem adi (m n:Nat) (ho:o.op=.binOp .mul ty x y bY:=by exact rfl) (hx:ev ρ x=some (.int .u32 (m:Nat)):=by exact rfl) (hy:ev ρ y=some (.int .u32 (n:Nat)):=by exact rfl) (h:m*n≤4294967295:=by omega):aH P ρ o (.int .u32 ((m*n:Nat):Int)):=NI ho hx hy h
theorem Hg (m n:Nat) (ho:o.op=.binOp .mul ty x y bY:=by exact rfl) (hx:ev ρ x=some (.int .u64 (m:Nat)):=by exact rfl) (hy:ev ρ y=some (.int .u64 (n:Nat)):=by exact rfl) (h:m*n≤18446744073709551615:=by omega):aH P ρ o (.int .u64 ((m*n:Nat):Int)):=NT ho hx hy h
theorem adj (m n:Nat) (ho:o.op=.binOp .mul ty x y bY:=by exact rfl) (hx:ev ρ x=some (.int .i16 (m:Nat)):=by exact rfl) (hy:ev ρ y=some (.int .i16 (n:Nat)):=by exact rfl) (h:m*n≤32767:=by omega):aH P ρ o (.int .i16 ((m*n:Nat):Int)):=Ni ho hx hy h
theorem adk (m n:Nat) (ho:o.op=.binOp .mul ty x y bY:=by exact rfl) (hx:ev ρ x=some (.int .i32 (m:Nat)):=by exact rfl) (hy:ev ρ y=some (.int .i32 (n:Nat)):=by exact rfl) (h:m*n≤2147483647:=by omega):aH P ρ o (.int .i32 ((m*n:Nat):Int)):=Nn ho hx hy h
theorem fB (m n:Nat) (ho:o.op=.binOp .mul ty x y bY:=by exact rfl) (hx:ev ρ x=some (.int .i64 (m:Nat)):=by exact rfl) (hy:ev ρ y=some (.int .i64 (n:Nat)):=by exact rfl) (h:m*n≤9223372036854775807:=by omega):aH P ρ o (.int .i64 ((m*n:Nat):Int)):=Nt ho hx hy h
theorem adl (m n:Nat) (ho:o.op=.binOp .mul ty x y bY:=by exact rfl) (hx:ev ρ x=some (.int .u32 (m:Nat)):=by exact rfl) (hy:ev ρ y=some (.int .u32 (n:Nat)):=by exact rfl):aH P ρ o (.int .u32 (((m*n)%4294967296:Nat):Int)):=NO ho hx hy
theorem Ey (m n:Nat) (ho:o.op=.binOp .or ty x y bY:=by exact rfl) (hx:ev ρ x=some (.int .u8 (m:Nat)):=by exact rfl) (hy:ev ρ y=some (.int .u8 (n:Nat)):=by exact rfl) (hm:m<256:=by omega) (hn:n<256:=by omega):aH P ρ o (.int .u8 ((m|||n:Nat):Int)):=Br ho hx hy hm hn
theorem akJ (m n:Nat) (ho:o.op=.binOp .or ty x y bY:=by exact rfl) (hx:ev ρ x=some (.int .u16 (m:Nat)):=by exact rfl) (hy:ev ρ y=some (.int .u16 (n:Nat)):=by exact rfl) (hm:m<65536:=by omega) (hn:n<65536:=by omega):aH P ρ o (.int .u16 ((m|||n:Nat):Int)):=WS ho hx hy hm hn
theorem Kw (m n:Nat) (ho:o.op=.binOp .or ty x y bY:=by exact rfl) (hx:ev ρ x=some (.int .u32 (m:Nat)):=by exact rfl) (hy:ev ρ y=some (.int .u32 (n:Nat)):=by exact rfl) (hm:m<4294967296:=by omega) (hn:n<4294967296:=by omega):aH P ρ o (.int .u32 ((m|||n:Nat):Int)):=dx ho hx hy hm hn
theorem lQ (m n:Nat) (ho:o.op=.binOp .or ty x y bY:=by exact rfl) (hx:ev ρ x=some (.int .u64 (m:Nat)):=by exact rfl) (hy:ev ρ y=some (.int .u64 (n:Nat)):=by exact rfl) (hm:m<18446744073709551616:=by omega) (hn:n<18446744073709551616:=by omega):aH P ρ o (.int .u64 ((m|||n:Nat):Int)):=nf ho hx hy hm hn
theorem uc (m n:Nat) (ho:o.op=.binOp .or ty x y bY:=by exact rfl) (hx:ev ρ x=some (.int .i64 (m:Nat)):=by exact rfl) (hy:ev ρ y=some (.int .i64 (n:Nat)):=by exact rfl) (hm:m<9223372036854775808:=by omega) (hn:n<9223372036854775808:=by omega):aH P ρ o (.int .i64 ((m|||n:Nat):Int)):=WB ho hx hy hm hn
theorem adm (m n:Nat) (ho:o.op=.binOp .quo ty x y bY:=by exact rfl) (hx:ev ρ x=some (.int .u8 (m:Nat)):=by exact rfl) (hy:ev ρ y=some (.int .u8 (n:Nat)):=by exact rfl) (h0:0<n:=by omega) (hm:m≤255:=by omega):aH P ρ o (.int .u8 ((m/n:Nat):Int)):=WN ho hx hy h0 hm
theorem P7 (m n:Nat) (ho:o.op=.binOp .quo ty x y bY:=by exact rfl) (hx:ev ρ x=some (.int .u32 (m:Nat)):=by exact rfl) (hy:ev ρ y=some (.int .u32 (n:Nat)):=by exact rfl) (h0:0<n:=by omega) (hm:m≤4294967295:=by omega):aH P ρ o (.int .u32 ((m/n:Nat):Int)):=NN ho hx hy h0 hm
theorem Hh (m n:Nat) (ho:o.op=.binOp .quo ty x y bY:=by exact rfl) (hx:ev ρ x=some (.int .u64 (m:Nat)):=by exact rfl) (hy:ev ρ y=some (.int .u64 (n:Nat)):=by exact rfl) (h0:0<n:=by omega) (hm:m≤18446744073709551615:=by omega):aH P ρ o (.int .u64 ((m/n:Nat):Int)):=NY ho hx hy h0 hm
theorem si (m n:Nat) (ho:o.op=.binOp .quo ty x y bY:=by exact rfl) (hx:ev ρ x=some (.int .i64 (m:Nat)):=by exact rfl) (hy:ev ρ y=some (.int .i64 (n:Nat)):=by exact rfl) (h0:0<n:=by omega) (hm:m≤9223372036854775807:=by omega):aH P ρ o (.int .i64 ((m/n:Nat):Int)):=Ny ho hx hy h0 hm
theorem adn (m n:Nat) {k':IntKind} (ho:o.op=.binOp .shl ty x y bY:=by exact rfl) (hx:ev ρ x=some (.int .u8 (m:Nat)):=by exact rfl) (hy:ev ρ y=some (.int k' (n:Nat)):=by exact rfl) (hn:n≤8:=by omega) (h:m*2^n≤255:=by omega):aH P ρ o (.int .u8 ((m*2^n:Nat):Int)):=WL ho hx hy hn h
theorem ado (m n:Nat) {k':IntKind} (ho:o.op=.binOp .shl ty x y bY:=by exact rfl) (hx:ev ρ x=some (.int .u16 (m:Nat)):=by exact rfl) (hy:ev ρ y=some (.int k' (n:Nat)):=by exact rfl) (hn:n≤16:=by omega) (h:m*2^n≤65535:=by omega):aH P ρ o (.int .u16 ((m*2^n:Nat):Int)):=NF ho hx hy hn h
theorem P8 (m n:Nat) {k':IntKind} (ho:o.op=.binOp .shl ty x y bY:=by exact rfl) (hx:ev ρ x=some (.int .u32 (m:Nat)):=by exact rfl) (hy:ev ρ y=some (.int k' (n:Nat)):=by exact rfl) (hn:n≤32:=by omega) (h:m*2^n≤4294967295:=by omega):aH P ρ o (.int .u32 ((m*2^n:Nat):Int)):=NM ho hx hy hn h
theorem adp (m n:Nat) {k':IntKind} (ho:o.op=.binOp .shl ty x y bY:=by exact rfl) (hx:ev ρ x=some (.int .u64 (m:Nat)):=by exact rfl) (hy:ev ρ y=some (.int k' (n:Nat)):=by exact rfl) (hn:n≤64:=by omega) (h:m*2^n≤18446744073709551615:=by omega):aH P ρ o (.int .u64 ((m*2^n:Nat):Int)):=NX ho hx hy hn h
theorem P9 (m n:Nat) {k':IntKind} (ho:o.op=.binOp .shl ty x y bY:=by exact rfl) (hx:ev ρ x=some (.int .i16 (m:Nat)):=by exact rfl) (hy:ev ρ y=some (.int k' (n:Nat)):=by exact rfl) (hn:n≤16:=by omega) (h:m*2^n≤32767:=by omega):aH P ρ o (.int .i16 ((m*2^n:Nat):Int)):=Nl ho hx hy hn h
theorem adq (m n:Nat) {k':IntKind} (ho:o.op=.binOp .shl ty x y bY:=by exact rfl) (hx:ev ρ x=some (.int .i32 (m:Nat)):=by exact rfl) (hy:ev ρ y=some (.int k' (n:Nat)):=by exact rfl) (hn:n≤32:=by omega) (h:m*2^n≤2147483647:=by omega):aH P ρ o (.int .i32 ((m*2^n:Nat):Int)):=Nq ho hx hy hn h
theorem vo (m n:Nat) {k':IntKind} (ho:o.op=.binOp .shl ty x y bY:=by exact rfl) (hx:ev ρ x=some (.int .i64 (m:Nat)):=by exact rfl) (hy:ev ρ y=some (.int k' (n:Nat)):=by exact rfl) (hn:n≤64:=by omega) (h:m*2^n≤9223372036854775807:=by omega):aH P ρ o (.int .i64 ((m*2^n:Nat):Int)):=Nx ho hx hy hn h
theorem P' (m n:Nat) {k':IntKind} (ho:o.op=.binOp .shl ty x y bY:=by exact rfl) (hx:ev ρ x=some (.int .u16 (m:Nat)):=by exact rfl) (hy:ev ρ y=some (.int k' (n:Nat)):=by exact rfl):aH P ρ o (.int .u16 ((m*2^n%65536:Nat):Int)):=NG ho hx hy
theorem cw (m n:Nat) {k':IntKind} (ho:o.op=.binOp .shl ty x y bY:=by exact rfl) (hx:ev ρ x=some (.int .u32 (m:Nat)):=by exact rfl) (hy:ev ρ y=some (.int k' (n:Nat)):=by exact rfl):aH P ρ o (.int .u32 ((m*2^n%4294967296:Nat):Int)):=NQ ho hx hy
theorem jy (m n:Nat) {k':IntKind} (ho:o.op=.binOp .shl ty x y bY:=by exact rfl) (hx:ev ρ x=some (.int .u64 (m:Nat)):=by exact rfl) (hy:ev ρ y=some (.int k' (n:Nat)):=by exact rfl):aH P ρ o (.int .u64 ((m*2^n%18446744073709551616:Nat):Int)):=NZ ho hx hy
theorem Hi (m n:Nat) {k':IntKind} (ho:o.op=.binOp .shr ty x y bY:=by exact rfl) (hx:ev ρ x=some (.int .u8 (m:Nat)):=by exact rfl) (hy:ev ρ y=some (.int k' (n:Nat)):=by exact rfl) (h:m<256:=by omega):aH P ρ o (.int .u8 ((m/2^n:Nat):Int)):=WK ho hx hy h
theorem ax (m n:Nat) {k':IntKind} (ho:o.op=.binOp .shr ty x y bY:=by exact rfl) (hx:ev ρ x=some (.int .u16 (m:Nat)):=by exact rfl) (hy:ev ρ y=some (.int k' (n:Nat)):=by exact rfl) (h:m<65536:=by omega):aH P ρ o (.int .u16 ((m/2^n:Nat):Int)):=ND ho hx hy h
theorem sk (m n:Nat) {k':IntKind} (ho:o.op=.binOp .shr ty x y bY:=by exact rfl) (hx:ev ρ x=some (.int .u32 (m:Nat)):=by exact rfl) (hy:ev ρ y=some (.int k' (n:Nat)):=by exact rfl) (h:m<4294967296:=by omega):aH P ρ o (.int .u32 ((m/2^n:Nat):Int)):=NL ho hx hy h
theorem aG (m n:Nat) {k':IntKind} (ho:o.op=.binOp .shr ty x y bY:=by exact rfl) (hx:ev ρ x=some (.int .u64 (m:Nat)):=by exact rfl) (hy:ev ρ y=some (.int k' (n:Nat)):=by exact rfl) (h:m<18446744073709551616:=by omega):aH P ρ o (.int .u64 ((m/2^n:Nat):Int)):=NW ho hx hy h
theorem adr (m n:Nat) {k':IntKind} (ho:o.op=.binOp .shr ty x y bY:=by exact rfl) (hx:ev ρ x=some (.int .i16 (m:Nat)):=by exact rfl) (hy:ev ρ y=some (.int k' (n:Nat)):=by exact rfl) (h:m<65536:=by omega):aH P ρ o (.int .i16 ((m/2^n:Nat):Int)):=Nk ho hx hy h
theorem Qa (m n:Nat) {k':IntKind} (ho:o.op=.binOp .shr ty x y bY:=by exact rfl) (hx:ev ρ x=some (.int .i32 (m:Nat)):=by exact rfl) (hy:ev ρ y=some (.int k' (n:Nat)):=by exact rfl) (h:m<4294967296:=by omega):aH P ρ o (.int .i32 ((m/2^n:Nat):Int)):=Np ho hx hy h
theorem Hj (m n:Nat) {k':IntKind} (ho:o.op=.binOp .shr ty x y bY:=by exact rfl) (hx:ev ρ x=some (.int .i64 (m:Nat)):=by exact rfl) (hy:ev ρ y=some (.int k' (n:Nat)):=by exact rfl) (h:m<18446744073709551616:=by omega):aH P ρ o (.int .i64 ((m/2^n:Nat):Int)):=Nw ho hx hy h
theorem yj (m n:Nat) (ho:o.op=.binOp .sub ty x y bY:=by exact rfl) (hx:ev ρ x=some (.int .u8 (m:Nat)):=by exact rfl) (hy:ev ρ y=some (.int .u8 (n:Nat)):=by exact rfl) (h:n≤m∧m≤255:=by omega):aH P ρ o (.int .u8 ((m-n:Nat):Int)):=WI ho hx hy h
theorem ads (m n:Nat) (ho:o.op=.binOp .sub ty x y bY:=by exact rfl) (hx:ev ρ x=some (.int .u16 (m:Nat)):=by exact rfl) (hy:ev ρ y=some (.int .u16 (n:Nat)):=by exact rfl) (h:n≤m∧m≤65535:=by omega):aH P ρ o (.int .u16 ((m-n:Nat):Int)):=NA ho hx hy h
theorem Ca (m n:Nat) (ho:o.op=.binOp .sub ty x y bY:=by exact rfl) (hx:ev ρ x=some (.int .u32 (m:Nat)):=by exact rfl) (hy:ev ρ y=some (.int .u32 (n:Nat)):=by exact rfl) (h:n≤m∧m≤4294967295:=by omega):aH P ρ o (.int .u32 ((m-n:Nat):Int)):=NJ ho hx hy h
theorem jz (m n:Nat) (ho:o.op=.binOp .sub ty x y bY:=by exact rfl) (hx:ev ρ x=some (.int .u64 (m:Nat)):=by exact rfl) (hy:ev ρ y=some (.int .u64 (n:Nat)):=by exact rfl) (h:n≤m∧m≤18446744073709551615:=by omega):aH P ρ o (.int .u64 ((m-n:Nat):Int)):=NU ho hx hy h
theorem Qb (m n:Nat) (ho:o.op=.binOp .sub ty x y bY:=by exact rfl) (hx:ev ρ x=some (.int .i8 (m:Nat)):=by exact rfl) (hy:ev ρ y=some (.int .i8 (n:Nat)):=by exact rfl) (h:n≤m∧m≤127:=by omega):aH P ρ o (.int .i8 ((m-n:Nat):Int)):=Ww ho hx hy h
theorem Cd (m n:Nat) (ho:o.op=.binOp .sub ty x y bY:=by exact rfl) (hx:ev ρ x=some (.int .i16 (m:Nat)):=by exact rfl) (hy:ev ρ y=some (.int .i16 (n:Nat)):=by exact rfl) (h:n≤m∧m≤32767:=by omega):aH P ρ o (.int .i16 ((m-n:Nat):Int)):=Nj ho hx hy h
theorem adt (m n:Nat) (ho:o.op=.binOp .sub ty x y bY:=by exact rfl) (hx:ev ρ x=some (.int .i32 (m:Nat)):=by exact rfl) (hy:ev ρ y=some (.int .i32 (n:Nat)):=by exact rfl) (h:n≤m∧m≤2147483647:=by omega):aH P ρ o (.int .i32 ((m-n:Nat):Int)):=No ho hx hy h
theorem sn (m n:Nat) (ho:o.op=.binOp .sub ty x y bY:=by exact rfl) (hx:ev ρ x=some (.int .i64 (m:Nat)):=by exact rfl) (hy:ev ρ y=some (.int .i64 (n:Nat)):=by exact rfl) (h:n≤m∧m≤9223372036854775807:=by omega):aH P ρ o (.int .i64 ((m-n:Nat):Int)):=Nu ho hx hy h
theorem adu (m n:Nat) (ho:o.op=.binOp .sub ty x y bY:=by exact rfl) (hx:ev ρ x=some (.int .u8 (m:Nat)):=by exact rfl) (hy:ev ρ y=some (.int .u8 (n:Nat)):=by exact rfl) (h:n≤256:=by omega):aH P ρ o (.int .u8 (((m+256-n)%256:Nat):Int)):=WQ ho hx hy h
theorem adw (m n:Nat) (ho:o.op=.binOp .sub ty x y bY:=by exact rfl) (hx:ev ρ x=some (.int .u32 (m:Nat)):=by exact rfl) (hy:ev ρ y=some (.int .u32 (n:Nat)):=by exact rfl) (h:n≤4294967296:=by omega):aH P ρ o (.int .u32 (((m+4294967296-n)%4294967296:Nat):Int)):=NP ho hx hy h
end
abbrev e_4:Nat × Kd:=(4,.e)
abbrev e_5:Nat × Kd:=(5,.e)
abbrev e_6:Nat × Kd:=(6,.e)
abbrev XT:Nat × Kd:=(7,.e)
abbrev Ez:Nat × Kd:=(8,.e)
abbrev j9:Nat × Kd:=(9,.e)
abbrev oF:Nat × Kd:=(10,.e)
abbrev LU:Nat × Kd:=(11,.e)
abbrev LV:Nat × Kd:=(12,.e)
abbrev Hk:Nat × Kd:=(13,.e)
abbrev akK:Nat × Kd:=(14,.e)
abbrev EA:Nat × Kd:=(15,.e)
abbrev Qc:Nat × Kd:=(16,.e)
abbrev Qd:Nat × Kd:=(18,.e)
abbrev att:Nat × Kd:=(20,.e)
abbrev adx:Nat × Kd:=(21,.e)
abbrev atu:Nat × Kd:=(24,.e)
abbrev Ce:Nat × Kd:=(25,.e)
abbrev atv:Nat × Kd:=(26,.e)
abbrev Ky:Nat × Kd:=(0,.r)
abbrev r_1:Nat × Kd:=(1,.r)
abbrev MO:Nat × Kd:=(2,.r)
abbrev ig:Nat × Kd:=(3,.r)
abbrev ij:Nat × Kd:=(4,.r)
abbrev Kz:Nat × Kd:=(5,.r)
abbrev rB:Nat × Kd:=(6,.r)
abbrev nN:Nat × Kd:=(7,.r)
abbrev zn:Nat × Kd:=(8,.r)
abbrev Ch:Nat × Kd:=(9,.r)
abbrev zH:Nat × Kd:=(10,.r)
abbrev kT:Nat × Kd:=(11,.r)
abbrev vp:Nat × Kd:=(12,.r)
abbrev ady:Nat × Kd:=(13,.r)
abbrev vq:Nat × Kd:=(14,.r)
abbrev XU:Nat × Kd:=(15,.r)
abbrev akL:Nat × Kd:=(16,.r)
abbrev LW:Nat × Kd:=(17,.r)
abbrev vr:Nat × Kd:=(18,.r)
abbrev zI:Nat × Kd:=(19,.r)
abbrev akM:Nat × Kd:=(23,.r)
abbrev atw:Nat × Kd:=(24,.r)
abbrev atx:Nat × Kd:=(30,.r)
abbrev aty:Nat × Kd:=(36,.r)
abbrev atz:Nat × Kd:=(42,.r)
abbrev bG:Nat × Kd:=(0,.y)
abbrev br:Nat × Kd:=(1,.y)
abbrev bE:Nat × Kd:=(2,.y)
abbrev c6:Nat × Kd:=(3,.y)
abbrev dm:Nat × Kd:=(4,.y)
abbrev bU:Nat × Kd:=(5,.y)
abbrev cE:Nat × Kd:=(6,.y)
abbrev cR:Nat × Kd:=(7,.y)
abbrev cN:Nat × Kd:=(8,.y)
abbrev dM:Nat × Kd:=(9,.y)
abbrev ck:Nat × Kd:=(10,.y)
abbrev eg:Nat × Kd:=(11,.y)
abbrev dP:Nat × Kd:=(12,.y)
abbrev dI:Nat × Kd:=(13,.y)
abbrev eK:Nat × Kd:=(14,.y)
abbrev eU:Nat × Kd:=(15,.y)
abbrev iB:Nat × Kd:=(16,.y)
abbrev jP:Nat × Kd:=(17,.y)
abbrev sq:Nat × Kd:=(18,.y)
abbrev nO:Nat × Kd:=(19,.y)
abbrev ka:Nat × Kd:=(20,.y)
abbrev kU:Nat × Kd:=(21,.y)
abbrev kz:Nat × Kd:=(22,.y)
abbrev wI:Nat × Kd:=(23,.y)
abbrev wJ:Nat × Kd:=(24,.y)
abbrev XV:Nat × Kd:=(25,.y)
abbrev adz:Nat × Kd:=(26,.y)
abbrev adA:Nat × Kd:=(27,.y)
abbrev atA:Nat × Kd:=(28,.y)
abbrev atB:Nat × Kd:=(29,.y)
abbrev atC:Nat × Kd:=(31,.y)
abbrev atD:Nat × Kd:=(32,.y)
abbrev atE:Nat × Kd:=(33,.y)
abbrev atF:Nat × Kd:=(34,.y)
abbrev atG:Nat × Kd:=(35,.y)
abbrev atH:Nat × Kd:=(37,.y)
abbrev atI:Nat × Kd:=(38,.y)
abbrev atJ:Nat × Kd:=(39,.y)
abbrev atK:Nat × Kd:=(40,.y)
abbrev atL:Nat × Kd:=(41,.y)
abbrev atN:Nat × Kd:=(43,.y)
abbrev atO:Nat × Kd:=(44,.y)
abbrev atP:Nat × Kd:=(45,.y)
abbrev atQ:Nat × Kd:=(46,.y)
section
variable {K:Kx} {Q:Exit→Act→World→Prop} {ρ:aB} {l r:List au} {id:Nat} {L:List Oper}
theorem Zg (E:Nat) (order:List (Nat × Kd)) (h:GP Tryz.prog K Q L order ρ l r) (hB:JJ L E order=true:=by kernel_rfl) (hQ:∀c a w (d:Nat) v,Q (.panic c) (a.put (some d) v) w→Q (.panic c) a w:=by exact fun _ _ _ _ _ h=>h):G Tryz.prog K Q (.region id L.toArray true) ρ l r:=G.asZ E order mo hB hQ h
theorem Zh (E:Nat) (pl:Pl) (h:GT Tryz.prog K Q L pl ρ l r) (hB:JR L E pl=true:=by kernel_rfl) (hQ:∀c a w (d:Nat) v,Q (.panic c) (a.put (some d) v) w→Q (.panic c) a w:=by exact fun _ _ _ _ _ h=>h):G Tryz.prog K Q (.region id L.toArray true) ρ l r:=G.tree E pl mo hB hQ h
end
class fO (s f:Nat) (n:outParam Nat):Prop where
  h:fieldOff Tryz.prog s f=some n
instance akN:fO 103 0 0:=⟨Kr⟩
instance akO:fO 103 1 1:=⟨Kr⟩
instance akP:fO 103 2 2:=⟨Kr⟩
instance akQ:fO 106 0 0:=⟨Kr⟩
instance akR:fO 106 1 256:=⟨Kr⟩
instance aju:fO 106 10 528:=⟨Kr⟩
instance ajv:fO 106 11 529:=⟨Kr⟩
instance ajw:fO 106 12 530:=⟨Kr⟩
instance ajx:fO 106 13 531:=⟨Kr⟩
instance ajy:fO 106 14 532:=⟨Kr⟩
instance ajz:fO 106 15 533:=⟨Kr⟩
instance akS:fO 106 2 512:=⟨Kr⟩
instance akT:fO 106 3 514:=⟨Kr⟩
instance akU:fO 106 4 518:=⟨Kr⟩
instance akV:fO 106 5 521:=⟨Kr⟩
instance akW:fO 106 6 524:=⟨Kr⟩
instance akX:fO 106 7 525:=⟨Kr⟩
instance akY:fO 106 8 526:=⟨Kr⟩
instance akZ:fO 106 9 527:=⟨Kr⟩
instance ak0:fO 112 0 0:=⟨Kr⟩
instance ak1:fO 112 1 1:=⟨Kr⟩
instance ak2:fO 114 0 0:=⟨Kr⟩
instance ak3:fO 118 0 0:=⟨Kr⟩
instance EB:fO 118 1 1:=⟨Kr⟩
instance EC:fO 118 2 2:=⟨Kr⟩
instance ak4:fO 120 0 0:=⟨Kr⟩
instance ak5:fO 120 1 1:=⟨Kr⟩
instance ak6:fO 120 2 2:=⟨Kr⟩
instance ak7:fO 120 3 3:=⟨Kr⟩
instance ak8:fO 142 0 0:=⟨Kr⟩
instance Qe:fO 142 1 1:=⟨Kr⟩
instance ak9:fO 142 2 2:=⟨Kr⟩
instance aT:fO 142 3 3:=⟨Kr⟩
instance ala:fO 165 0 0:=⟨Kr⟩
instance alb:fO 165 1 1:=⟨Kr⟩
instance alc:fO 165 2 2:=⟨Kr⟩
instance ald:fO 169 0 0:=⟨Kr⟩
instance ale:fO 169 1 1:=⟨Kr⟩
instance alf:fO 169 2 2:=⟨Kr⟩
instance alg:fO 183 0 0:=⟨Kr⟩
instance alh:fO 183 1 1:=⟨Kr⟩
instance ali:fO 183 2 2:=⟨Kr⟩
instance alj:fO 186 0 0:=⟨Kr⟩
instance alk:fO 186 1 1:=⟨Kr⟩
instance alm:fO 186 2 2:=⟨Kr⟩
instance aln:fO 196 0 0:=⟨Kr⟩
instance alo:fO 196 1 1:=⟨Kr⟩
instance alp:fO 205 0 0:=⟨Kr⟩
instance alq:fO 205 1 1:=⟨Kr⟩
instance alr:fO 208 0 0:=⟨Kr⟩
instance als:fO 208 1 1:=⟨Kr⟩
instance alu:fO 208 2 2:=⟨Kr⟩
instance arR:fO 63 0 0:=⟨Kr⟩
instance arS:fO 71 0 0:=⟨Kr⟩
instance arT:fO 71 1 256:=⟨Kr⟩
instance alv:fO 71 10 265:=⟨Kr⟩
instance alw:fO 71 11 266:=⟨Kr⟩
instance alx:fO 71 12 267:=⟨Kr⟩
instance aly:fO 71 13 268:=⟨Kr⟩
instance alz:fO 71 14 269:=⟨Kr⟩
instance alA:fO 71 15 270:=⟨Kr⟩
instance alB:fO 71 16 271:=⟨Kr⟩
instance alC:fO 71 17 272:=⟨Kr⟩
instance alD:fO 71 18 273:=⟨Kr⟩
instance arU:fO 71 2 257:=⟨Kr⟩
instance alE:fO 71 20 278:=⟨Kr⟩
instance alF:fO 71 22 279:=⟨Kr⟩
instance arV:fO 71 3 258:=⟨Kr⟩
instance arW:fO 71 4 259:=⟨Kr⟩
instance arX:fO 71 5 260:=⟨Kr⟩
instance arY:fO 71 6 261:=⟨Kr⟩
instance arZ:fO 71 7 262:=⟨Kr⟩
instance ar0:fO 71 8 263:=⟨Kr⟩
instance ar1:fO 71 9 264:=⟨Kr⟩
instance ar2:fO 94 0 0:=⟨Kr⟩
instance ar3:fO 94 1 1:=⟨Kr⟩
instance ar4:fO 97 0 0:=⟨Kr⟩
instance ar5:fO 97 1 1:=⟨Kr⟩
instance ar6:fO 97 2 2:=⟨Kr⟩
instance ar7:fO 97 3 3:=⟨Kr⟩
instance ar8:fO 99 0 0:=⟨Kr⟩
instance ar9:fO 99 1 1:=⟨Kr⟩
instance asa:fO 99 2 2:=⟨Kr⟩
theorem Tfo {s f:Nat} {n:Nat} [c:fO s f n]:fieldOff Tryz.prog s f=some n:=c.h
class kH (t:Nat) (D:outParam TypeDesc):Prop where
  h:Tryz.prog.underlying t=some D
instance atS:kH 100 (.slice 58):=⟨Kr⟩
instance atT:kH 101 (.slice 205):=⟨Kr⟩
instance atU:kH 104 (.slice 165):=⟨Kr⟩
instance Qf:kH 123 (.pointer 148):=⟨Kr⟩
instance Hl:kH 136 (.pointer 138):=⟨Kr⟩
instance atV:kH 150 (.int .i8):=⟨Kr⟩
instance atW:kH 163 (.slice 91):=⟨Kr⟩
instance adB:kH 174 (.int .u64):=⟨Kr⟩
instance atX:kH 198 (.slice 196):=⟨Kr⟩
instance AS:kH 21 (.int .i32):=⟨Kr⟩
instance lR:kH 22 (.slice 5):=⟨Kr⟩
instance ED:kH 3 (.int .i64):=⟨Kr⟩
instance v9:kH 32 (.int .u64):=⟨Kr⟩
instance aCv:kH 43 (.slice 46):=⟨Kr⟩
instance pD:kH 46 (.int .u32):=⟨Kr⟩
instance a8:kH 5 (.int .u8):=⟨Kr⟩
instance alG:kH 55 (.pointer 71):=⟨Kr⟩
instance aC:kH 58 (.int .u16):=⟨Kr⟩
instance aCw:kH 60 (.slice 112):=⟨Kr⟩
instance aCx:kH 61 (.slice 114):=⟨Kr⟩
instance aCy:kH 64 (.slice 174):=⟨Kr⟩
instance aao:kH 66 (.pointer 106):=⟨Kr⟩
instance oh:kH 69 (.array 256 5):=⟨Kr⟩
instance eP:kH 73 (.interface #[("Error",218)]):=⟨Kr⟩
instance XW:kH 9 (.string):=⟨Kr⟩
instance yk:kH 91 (.int .i16):=⟨Kr⟩
instance aap:kH 95 (.int .u64):=⟨Kr⟩
theorem XX {t:Nat} {D:TypeDesc} [c:kH t D]:Tryz.prog.underlying t=some D:=c.h
class qM (t:Nat) (b:outParam Bool):Prop where
  h:mv Tryz.prog t=some b
instance at0:qM 100 false:=⟨Kr⟩
instance at1:qM 101 false:=⟨Kr⟩
instance Qg:qM 104 false:=⟨Kr⟩
instance vt:qM 112 true:=⟨Kr⟩
instance ba:qM 114 true:=⟨Kr⟩
instance Qh:qM 116 false:=⟨Kr⟩
instance pE:qM 165 true:=⟨Kr⟩
instance at2:qM 166 false:=⟨Kr⟩
instance Ci:qM 172 true:=⟨Kr⟩
instance at3:qM 174 false:=⟨Kr⟩
instance sr:qM 186 true:=⟨Kr⟩
instance iO:qM 205 true:=⟨Kr⟩
instance at4:qM 206 false:=⟨Kr⟩
instance aCz:qM 21 false:=⟨Kr⟩
instance gF:qM 22 false:=⟨Kr⟩
instance XY:qM 3 false:=⟨Kr⟩
instance Qi:qM 32 false:=⟨Kr⟩
instance aHD:qM 4 false:=⟨Kr⟩
instance gh:qM 46 false:=⟨Kr⟩
instance cL:qM 5 false:=⟨Kr⟩
instance aCA:qM 56 false:=⟨Kr⟩
instance aaq:qM 57 true:=⟨Kr⟩
instance cU:qM 58 false:=⟨Kr⟩
instance aar:qM 60 false:=⟨Kr⟩
instance EE:qM 61 false:=⟨Kr⟩
instance alH:qM 63 true:=⟨Kr⟩
instance aCB:qM 64 false:=⟨Kr⟩
instance aCC:qM 66 false:=⟨Kr⟩
instance om:qM 69 true:=⟨Kr⟩
instance aCD:qM 73 false:=⟨Kr⟩
instance ud:qM 91 false:=⟨Kr⟩
instance oo:qM 94 true:=⟨Kr⟩
instance aCE:qM 95 false:=⟨Kr⟩
theorem Tag {t:Nat} {b:Bool} [c:qM t b]:mv Tryz.prog t=some b:=c.h
class rC (t:Nat) (n:outParam Nat):Prop where
  h:eW Tryz.prog t=some n
instance Qj:rC 100 1:=⟨Kr⟩
instance at5:rC 101 1:=⟨Kr⟩
instance adC:rC 104 1:=⟨Kr⟩
instance lY:rC 112 2:=⟨Kr⟩
instance aj:rC 114 1:=⟨Kr⟩
instance lZ:rC 165 3:=⟨Kr⟩
instance at6:rC 166 1:=⟨Kr⟩
instance Cj:rC 172 0:=⟨Kr⟩
instance at7:rC 174 1:=⟨Kr⟩
instance adD:rC 183 3:=⟨Kr⟩
instance kA:rC 186 3:=⟨Kr⟩
instance iP:rC 205 2:=⟨Kr⟩
instance aua:rC 206 1:=⟨Kr⟩
instance aas:rC 21 1:=⟨Kr⟩
instance iX:rC 22 1:=⟨Kr⟩
instance zJ:rC 3 1:=⟨Kr⟩
instance aCF:rC 32 1:=⟨Kr⟩
instance aub:rC 4 1:=⟨Kr⟩
instance EF:rC 46 1:=⟨Kr⟩
instance fL:rC 5 1:=⟨Kr⟩
instance aat:rC 57 256:=⟨Kr⟩
instance AT:rC 58 1:=⟨Kr⟩
instance AU:rC 60 1:=⟨Kr⟩
instance alI:rC 61 1:=⟨Kr⟩
instance alJ:rC 63 1:=⟨Kr⟩
instance KA:rC 64 1:=⟨Kr⟩
instance aau:rC 66 1:=⟨Kr⟩
instance gG:rC 69 256:=⟨Kr⟩
instance EG:rC 91 1:=⟨Kr⟩
instance ou:rC 94 2:=⟨Kr⟩
instance AV:rC 95 1:=⟨Kr⟩
theorem LX {t:Nat} {n:Nat} [c:rC t n]:eW Tryz.prog t=some n:=c.h
class V5 (t:Nat) (n:outParam Nat):Prop where
  h:cJ Tryz.prog t=some n
instance auc:V5 100 1:=⟨Kr⟩
instance gu:V5 101 2:=⟨Kr⟩
instance jC:V5 104 3:=⟨Kr⟩
instance aud:V5 163 1:=⟨Kr⟩
instance ak:V5 22 1:=⟨Kr⟩
instance aCG:V5 43 1:=⟨Kr⟩
instance lA:V5 60 2:=⟨Kr⟩
instance AW:V5 61 1:=⟨Kr⟩
instance EH:V5 64 1:=⟨Kr⟩
theorem Tse {t:Nat} {n:Nat} [c:V5 t n]:cJ Tryz.prog t=some n:=c.h
class EI (t:Nat) (n:outParam (Nat × Nat)):Prop where
  h:gX Tryz.prog t=some n
instance aue:EI 108 (16,1):=⟨Kr⟩
instance nQ:EI 109 (4,16):=⟨Kr⟩
instance auf:EI 121 (4,4):=⟨Kr⟩
instance gE:EI 143 (4,4):=⟨Kr⟩
instance Qk:EI 148 (4,256):=⟨Kr⟩
instance aug:EI 152 (12,1):=⟨Kr⟩
instance auh:EI 179 (12,1):=⟨Kr⟩
instance aui:EI 180 (16,1):=⟨Kr⟩
instance auj:EI 197 (32,2):=⟨Kr⟩
instance adE:EI 201 (13,1):=⟨Kr⟩
instance auk:EI 202 (8,1):=⟨Kr⟩
instance aul:EI 203 (257,1):=⟨Kr⟩
instance aum:EI 217 (32,1):=⟨Kr⟩
instance Ql:EI 57 (256,1):=⟨Kr⟩
instance yl:EI 69 (256,1):=⟨Kr⟩
instance jE:EI 92 (256,1):=⟨Kr⟩
theorem Tae {t:Nat} {n:(Nat × Nat)} [c:EI t n]:gX Tryz.prog t=some n:=c.h
class wK (t:Nat) (n:outParam (List Value)):Prop where
  h:vH Tryz.prog t=some n
instance Qn:wK 106 ((aa .u32 (List.replicate 256 0))++(aa .i16 (List.replicate 256 0))++[.slice none 0 0,.int .i64 ((0:Nat):Int),.slice none 0 0,.int .u64 ((0:Nat):Int),.int .u64 ((0:Nat):Int),.int .u8 ((0:Nat):Int),.int .u64 ((0:Nat):Int),.int .u8 ((0:Nat):Int),.slice none 0 0,.slice none 0 0,.slice none 0 0,.slice none 0 0,.slice none 0 0,.int .i64 ((0:Nat):Int),.slice none 0 0,.int .i64 ((0:Nat):Int),.int .u16 ((0:Nat):Int),.int .u8 ((0:Nat):Int),.bool false,.bool false,.int .u8 ((0:Nat):Int),.int .u8 ((0:Nat):Int)]):=⟨Kr⟩
instance adF:wK 108 ((aa .u32 (List.replicate 16 0))):=⟨Kr⟩
instance adG:wK 109 ((aa .u32 (List.replicate 64 0))):=⟨Kr⟩
instance Ck:wK 112 ([.int .u16 ((0:Nat):Int),.int .u8 ((0:Nat):Int)]):=⟨Kr⟩
instance dJ:wK 114 ([.int .u16 ((0:Nat):Int)]):=⟨Kr⟩
instance adH:wK 118 ([.slice none 0 0,.int .u8 ((0:Nat):Int),(Value.pointer none)]):=⟨Kr⟩
instance adI:wK 120 ([.slice none 0 0,.int .u64 ((0:Nat):Int),.int .u64 ((0:Nat):Int),.int .u8 ((0:Nat):Int)]):=⟨Kr⟩
instance adJ:wK 121 ([.slice none 0 0,.int .u64 ((0:Nat):Int),.int .u64 ((0:Nat):Int),.int .u8 ((0:Nat):Int),.slice none 0 0,.int .u64 ((0:Nat):Int),.int .u64 ((0:Nat):Int),.int .u8 ((0:Nat):Int),.slice none 0 0,.int .u64 ((0:Nat):Int),.int .u64 ((0:Nat):Int),.int .u8 ((0:Nat):Int),.slice none 0 0,.int .u64 ((0:Nat):Int),.int .u64 ((0:Nat):Int),.int .u8 ((0:Nat):Int)]):=⟨Kr⟩
instance adK:wK 138 ([(.string ⟨#[]⟩)]):=⟨Kr⟩
instance Qo:wK 142 ([.slice none 0 0,.int .u64 ((0:Nat):Int),.int .u64 ((0:Nat):Int),.int .u8 ((0:Nat):Int)]):=⟨Kr⟩
instance Qp:wK 143 ([.slice none 0 0,.int .u64 ((0:Nat):Int),.int .u64 ((0:Nat):Int),.int .u8 ((0:Nat):Int),.slice none 0 0,.int .u64 ((0:Nat):Int),.int .u64 ((0:Nat):Int),.int .u8 ((0:Nat):Int),.slice none 0 0,.int .u64 ((0:Nat):Int),.int .u64 ((0:Nat):Int),.int .u8 ((0:Nat):Int),.slice none 0 0,.int .u64 ((0:Nat):Int),.int .u64 ((0:Nat):Int),.int .u8 ((0:Nat):Int)]):=⟨Kr⟩
instance adL:wK 148 ((aa .u8 (List.replicate 1024 0))):=⟨Kr⟩
instance adM:wK 152 ((aa .u8 (List.replicate 12 0))):=⟨Kr⟩
instance pF:wK 165 ([.int .u16 ((0:Nat):Int),.int .u8 ((0:Nat):Int),.int .u8 ((0:Nat):Int)]):=⟨Kr⟩
instance Qq:wK 169 ([.int .u16 ((0:Nat):Int),(Value.pointer none),.slice none 0 0]):=⟨Kr⟩
instance Hm:wK 174 ([.int .u64 ((0:Nat):Int)]):=⟨Kr⟩
instance adN:wK 179 ((aa .u16 (List.replicate 12 0))):=⟨Kr⟩
instance adO:wK 180 ((aa .u16 (List.replicate 16 0))):=⟨Kr⟩
instance Qr:wK 183 ([.int .u64 ((0:Nat):Int),.int .u8 ((0:Nat):Int),.slice none 0 0]):=⟨Kr⟩
instance Cl:wK 186 ([.int .u64 ((0:Nat):Int),.int .u64 ((0:Nat):Int),.int .i64 ((0:Nat):Int)]):=⟨Kr⟩
instance adP:wK 197 ([.int .u32 ((0:Nat):Int),.int .u32 ((0:Nat):Int),.int .u32 ((0:Nat):Int),.int .u32 ((0:Nat):Int),.int .u32 ((0:Nat):Int),.int .u32 ((0:Nat):Int),.int .u32 ((0:Nat):Int),.int .u32 ((0:Nat):Int),.int .u32 ((0:Nat):Int),.int .u32 ((0:Nat):Int),.int .u32 ((0:Nat):Int),.int .u32 ((0:Nat):Int),.int .u32 ((0:Nat):Int),.int .u32 ((0:Nat):Int),.int .u32 ((0:Nat):Int),.int .u32 ((0:Nat):Int),.int .u32 ((0:Nat):Int),.int .u32 ((0:Nat):Int),.int .u32 ((0:Nat):Int),.int .u32 ((0:Nat):Int),.int .u32 ((0:Nat):Int),.int .u32 ((0:Nat):Int),.int .u32 ((0:Nat):Int),.int .u32 ((0:Nat):Int),.int .u32 ((0:Nat):Int),.int .u32 ((0:Nat):Int),.int .u32 ((0:Nat):Int),.int .u32 ((0:Nat):Int),.int .u32 ((0:Nat):Int),.int .u32 ((0:Nat):Int),.int .u32 ((0:Nat):Int),.int .u32 ((0:Nat):Int),.int .u32 ((0:Nat):Int),.int .u32 ((0:Nat):Int),.int .u32 ((0:Nat):Int),.int .u32 ((0:Nat):Int),.int .u32 ((0:Nat):Int),.int .u32 ((0:Nat):Int),.int .u32 ((0:Nat):Int),.int .u32 ((0:Nat):Int),.int .u32 ((0:Nat):Int),.int .u32 ((0:Nat):Int),.int .u32 ((0:Nat):Int),.int .u32 ((0:Nat):Int),.int .u32 ((0:Nat):Int),.int .u32 ((0:Nat):Int),.int .u32 ((0:Nat):Int),.int .u32 ((0:Nat):Int),.int .u32 ((0:Nat):Int),.int .u32 ((0:Nat):Int),.int .u32 ((0:Nat):Int),.int .u32 ((0:Nat):Int),.int .u32 ((0:Nat):Int),.int .u32 ((0:Nat):Int),.int .u32 ((0:Nat):Int),.int .u32 ((0:Nat):Int),.int .u32 ((0:Nat):Int),.int .u32 ((0:Nat):Int),.int .u32 ((0:Nat):Int),.int .u32 ((0:Nat):Int),.int .u32 ((0:Nat):Int),.int .u32 ((0:Nat):Int),.int .u32 ((0:Nat):Int),.int .u32 ((0:Nat):Int)]):=⟨Kr⟩
instance adQ:wK 201 ((aa .u32 (List.replicate 13 0))):=⟨Kr⟩
instance adR:wK 203 ((aa .i16 (List.replicate 257 0))):=⟨Kr⟩
instance Qs:wK 208 ([(Value.pointer none),.slice none 0 0,.int .u16 ((0:Nat):Int)]):=⟨Kr⟩
instance EJ:wK 71 ((aa .u32 (List.replicate 256 0))++[.slice none 0 0,.slice none 0 0,.slice none 0 0,.int .i64 ((0:Nat):Int),.int .i64 ((0:Nat):Int),.int .u8 ((0:Nat):Int),.int .u8 ((0:Nat):Int),.int .u8 ((0:Nat):Int),.int .u8 ((0:Nat):Int),.int .u16 ((0:Nat):Int),.int .i64 ((0:Nat):Int),.bool false,.int .u8 ((0:Nat):Int),.int .u8 ((0:Nat):Int),.slice none 0 0,.slice none 0 0,.slice none 0 0,.slice none 0 0,.slice none 0 0,.slice none 0 0,.slice none 0 0,.slice none 0 0,(Value.pointer none)]++(aa .u8 (List.replicate 256 0))):=⟨Kr⟩
def cg (k g:Prop):Prop:=k→g
theorem cg.trans {a b c:Prop} (f:cg b c) (g:cg a b):cg a c:=fun h=>f (g h)
theorem cg.of {k g:Prop} (f:k→g):cg k g:=f
theorem EvC {n:Nat} {z:Int} {k:IntKind} {ρ:aB} (hz:z=Int.ofNat n):ev ρ (.const (.int k z))=some (.int k ((@OfNat.ofNat Nat n (instOfNatNat n):Nat):Int)):=by subst hz;rfl
theorem zK {p:Prop} (h:p:=by first|((with_reducible apply EvC);exact rfl)|exact rfl):p:=h
theorem Tom {p:Prop} (h:p:=by omega):p:=h
section
variable {P:Program} {K:Kx} {Q:Exit→Act→World→Prop} {ρ ρ':aB} {l r:List au} {L rest cI:List Oper} {o:Oper} {d i:Nat} {v:Value} {os Ew:List (Nat × Kd)} {pl wH:Pl} {L2:List Oper} {x y z:Code} {id:Nat}
theorem Yyn (h:aH P ρ o v) (hs:advY L K.n o v rest ρ=some (cI,ρ')):cg (GL P K Q L cI ρ' l r) (GL P K Q L (o::rest) ρ l r):=fun g=>Yy h g hs
theorem Yrn (h:n3 P ρ l r o v) (hs:advY L K.n o v rest ρ=some (cI,ρ')):cg (GL P K Q L cI ρ' l r) (GL P K Q L (o::rest) ρ l r):=fun g=>Yr h g hs
theorem Ysn {X:aB} {Y:List au} (h:kC P K ρ l r o (fun ρ' l'=>ρ'=X∧l'=Y)) (hw:want L ρ o=some true) (hs:adv L K.n rest X=some (cI,ρ')):cg (GL P K Q L cI ρ' Y r) (GL P K Q L (o::rest) ρ l r):=fun g=>Ys h g hw hs
theorem aun (ho:nth i L=some o) (h:aH P ρ o v) (hs:AP L K.n i v os ρ=some (Ew,ρ')):cg (GP P K Q L Ew ρ' l r) (GP P K Q L ((i,.y)::os) ρ l r):=fun g=>aN (by rw[jx ho];exact h) g hs
theorem auo (ho:nth i L=some o) (h:n3 P ρ l r o v) (hs:AP L K.n i v os ρ=some (Ew,ρ')):cg (GP P K Q L Ew ρ' l r) (GP P K Q L ((i,.r)::os) ρ l r):=fun g=>ko (by rw[jx ho];exact h) g hs
theorem aup {X:aB} {Y:List au} (ho:nth i L=some o) (h:kC P K ρ l r o (fun ρ' l'=>ρ'=X∧l'=Y)) (hw:pB L ρ i=some true) (hs:advP L K.n os X=some (Ew,ρ')):cg (GP P K Q L Ew ρ' Y r) (GP P K Q L ((i,.e)::os) ρ l r):=fun g=>XS (by rw[jx ho];exact h) g hw hs
theorem auq (ho:nth i L=some o) (h:aH P ρ o v) (hs:ry L K.n i v pl ρ=some (wH,ρ')):cg (GT P K Q L wH ρ' l r) (GT P K Q L (.st i false pl) ρ l r):=fun g=>w7 (by rw[jx ho];exact h) g hs
theorem aur (ho:nth i L=some o) (h:n3 P ρ l r o v) (hs:ry L K.n i v pl ρ=some (wH,ρ')):cg (GT P K Q L wH ρ' l r) (GT P K Q L (.st i true pl) ρ l r):=fun g=>vl (by rw[jx ho];exact h) g hs
theorem aus {X:aB} {Y:List au} (ho:nth i L=some o) (h:kC P K ρ l r o (fun ρ' l'=>ρ'=X∧l'=Y)) (hw:pB L ρ i=some true) (hs:advT L K.n pl X=some (wH,ρ')):cg (GT P K Q L wH ρ' Y r) (GT P K Q L (.ef i pl .stop) ρ l r):=fun g=>AQ (by rw[jx ho];exact h) g hw hs
theorem aut (ho:nth i L=some o) (h:n3 P ρ l r o v) (hs:ry L K.n i v pl ρ=some (wH,ρ')):cg (GT P K Q L wH ρ' l r) (GT P K Q L (.ef i pl .stop) ρ l r):=fun g=>Ytu (by rw[jx ho];exact h) g hs
theorem YGn (hs:adv L2 K.n L2 ρ=some (cI,ρ')):cg (GL P K Q L2 cI ρ' l r) (G P K Q (.region id L2.toArray false) ρ l r):=fun h=>YG h hs
theorem Y1n (hs:adv L2 K.n L2 ρ=some (cI,ρ')):cg (GL P K Q L2 cI ρ' l r) (GL P K (Exit.then ((Code.region id L2.toArray false).wp P Q) Q) L [] ρ l r):=fun h=>Y1 h hs
theorem Y2n (hs:adv L2 K.n L2 ρ=some (cI,ρ')):cg (GL P K (Exit.then (y.wp P Q) Q) L2 cI ρ' l r) (GL P K (Exit.then ((Code.seq (.region id L2.toArray false) y).wp P Q) Q) L [] ρ l r):=fun h=>Y2 h hs
theorem Y3n (hs:adv L2 K.n L2 ρ=some (cI,ρ')):cg (GL P K (Exit.then (y.wp P (Exit.then (z.wp P Q) Q)) (Exit.then (z.wp P Q) Q)) L2 cI ρ' l r) (GL P K (Exit.then ((Code.seq (.seq (.region id L2.toArray false) y) z).wp P Q) Q) L [] ρ l r):=fun h=>Y3 h hs
theorem Y5n (hs:adv L2 K.n L2 ρ=some (cI,ρ')):cg (GL P K (Exit.then (y.wp P Q) Q) L2 cI ρ' l r) (G P K Q (.seq (.region id L2.toArray false) y) ρ l r):=fun h=>Y5 h hs
theorem Y6n (hs:adv L2 K.n L2 ρ=some (cI,ρ')):cg (GL P K (Exit.then (y.wp P (Exit.then (z.wp P Q) Q)) (Exit.then (z.wp P Q) Q)) L2 cI ρ' l r) (G P K Q (.seq (.seq (.region id L2.toArray false) y) z) ρ l r):=fun h=>Y6 h hs
theorem Y8n (hs:adv L2 K.n L2 ρ=some (cI,ρ')):cg (GL P K (Exit.then (y.wp P Q) Q) L2 cI ρ' l r) (G P K (Exit.then ((Code.seq (.region id L2.toArray false) y).wp P Q) Q) .skip ρ l r):=fun h=>Y8 h hs
end
section
variable {ρ:aB} {l r:List au} {D:Option Tmp} {ty bY T t s f n m b q len cap sz:Nat} {x y:Operand} {A:String} {B:Array Edge} {C:Option (Nat × Bool)} {v:Value} {k k':IntKind}
theorem Ofa (hx:ev ρ x=some (.pointer (some ⟨b,q,none⟩))) (hP:fieldOff Tryz.prog s f=some n):aH Tryz.prog ρ ⟨D,.fieldAddr s x f,T,A,B,C⟩ (.pointer (some ⟨b,q+n,none⟩)):=ajH rfl hx hP
theorem auu {a:Call} {p:Option Addr} (hc:a.callee=.builtin .len) (hx:evs ρ a.args.toList=some [.slice p len cap]) (ht:a.argTypes= #[t]) (hu:Tryz.prog.underlying t=some (.slice s)):aH Tryz.prog ρ ⟨D,.call a,T,A,B,C⟩ (.int .i64 ((len:Nat):Int)):=Z8 rfl hc hx ht hu
theorem auv {a:Call} {p:Option Addr} (hc:a.callee=.builtin .cap) (hx:evs ρ a.args.toList=some [.slice p len cap]) (ht:a.argTypes= #[t]) (hu:Tryz.prog.underlying t=some (.slice s)):aH Tryz.prog ρ ⟨D,.call a,T,A,B,C⟩ (.int .i64 ((cap:Nat):Int)):=ajK rfl hc hx ht hu
def adS (bo:BinOp) (X Y v:Value):Prop:=∀(ρ:aB) (o:Oper) (ty bY:TypeId) (x y:Operand),o.op=.binOp bo ty x y bY→ev ρ x=some X→ev ρ y=some Y→aH Tryz.prog ρ o v
theorem auw {bo:BinOp} {X Y:Value} (hx:ev ρ x=some X) (hy:ev ρ y=some Y) (h:adS bo X Y v):aH Tryz.prog ρ ⟨D,.binOp bo ty x y bY,T,A,B,C⟩ v:=h ρ _ ty bY x y rfl hx hy
def adT (X v:Value) (s t:TypeId):Prop:=∀(ρ:aB) (o:Oper) (x:Operand),o.op=.convert s t x→ev ρ x=some X→aH Tryz.prog ρ o v
theorem auy {X:Value} (hx:ev ρ x=some X) (h:adT X v s t):aH Tryz.prog ρ ⟨D,.convert s t x,T,A,B,C⟩ v:=h ρ _ x rfl hx
theorem Obo {bo:BinOp} (h:aH Tryz.prog ρ ⟨D,.binOp bo ty x y bY,T,A,B,C⟩ v):aH Tryz.prog ρ ⟨D,.binOp bo ty x y bY,T,A,B,C⟩ v:=h
theorem Omi (h:aH Tryz.prog ρ ⟨D,.makeInterface t x,T,A,B,C⟩ v):aH Tryz.prog ρ ⟨D,.makeInterface t x,T,A,B,C⟩ v:=h
theorem Osl {z2 z3:Option Operand} (h:aH Tryz.prog ρ ⟨D,.slice t x none z2 z3,T,A,B,C⟩ v):aH Tryz.prog ρ ⟨D,.slice t x none z2 z3,T,A,B,C⟩ v:=h
theorem Oun {u:UnOp} (h:aH Tryz.prog ρ ⟨D,.unOp u ty x,T,A,B,C⟩ v):aH Tryz.prog ρ ⟨D,.unOp u ty x,T,A,B,C⟩ v:=h
theorem Oix (hx:ev ρ x=some (.slice (some ⟨b,q,none⟩) len cap)) (hy:ev ρ y=some (.int k (m:Nat))) (hP:cJ Tryz.prog t=some 1) (h:m<len) {q':Nat} (hq:q+m=q'):aH Tryz.prog ρ ⟨D,.indexAddr t x y,T,A,B,C⟩ (.pointer (some ⟨b,q',none⟩)):=ZU rfl hx hy hP h hq
theorem auz (hx:ev ρ x=some (.pointer (some ⟨b,q,none⟩))) (hy:ev ρ y=some (.int k (m:Nat))) (hP:gX Tryz.prog t=some (n,1)) (h:m<n) {q':Nat} (hq:q+m=q'):aH Tryz.prog ρ ⟨D,.indexAddr t x y,T,A,B,C⟩ (.pointer (some ⟨b,q',none⟩)):=ZV rfl hx hy hP h hq
theorem Oia (hx:ev ρ x=some (.pointer (some ⟨b,q,none⟩))) (hy:ev ρ y=some (.int k (m:Nat))) (hP:gX Tryz.prog t=some (n,sz)) (h:m<n) {q':Nat} (hq:q+m*sz=q'):aH Tryz.prog ρ ⟨D,.indexAddr t x y,T,A,B,C⟩ (.pointer (some ⟨b,q',none⟩)):=ab1 rfl hx hy hP h hq
def aZ (cs:List Value) (j:Nat) (v:Value):Prop:=cs[j]? =some v
theorem aZ.aa {xs:List Nat} {j:Nat} (h:j<xs.length):aZ (aa k xs) j (.int k ((xs.getD j 0:Nat):Int)):=aM h
theorem aZ.lit {cs:List Value} {j:Nat} {v:Value} (h:cs[j]? =some v):aZ cs j v:=h
def c7 (cs:List Value) (j:Nat) (v:Value) (gU:List Value):Prop:=cs.set j v=gU∧j<cs.length∧v.oneCell'=true
theorem c7.aa {xs:List Nat} {j m:Nat} (h:j<xs.length):c7 (aa k xs) j (.int k ((m:Nat):Int)) (aa k (xs.set j m)):=⟨s6 _ _ _ _,by rw[bJ];exact h,rfl⟩
theorem c7.ints {xs:List Int} {j:Nat} {z:Int} (h:j<xs.length):c7 (ints k xs) j (.int k z) (ints k (xs.set j z)):=⟨ints_set _ _ _ _,by simp[ints];exact h,rfl⟩
theorem aZ.ints {xs:List Int} {j:Nat} (h:j<xs.length):aZ (ints k xs) j (.int k (xs.getD j 0)):=ix h
theorem c7.lit {cs:List Value} {j:Nat} {v:Value} (hj:Nat.ble (j+1) cs.length=true) (hv:v.oneCell'=true):c7 cs j v (cs.set j v):=⟨rfl,Nat.le_of_ble_eq_true hj,hv⟩
theorem Old {i j o:Nat} {cs:List Value} {sh:Option (TypeId × Nat)} (hx:ev ρ x=some (.pointer (some ⟨b,q,none⟩))) (hs:nthS i l=some ⟨b,o,cs,sh⟩) (hq:q=o+j) (hc:aZ cs j v) (hP:mv Tryz.prog t=some false):n3 Tryz.prog ρ l r ⟨D,.load t x,T,A,B,C⟩ v:=dy i j hs rfl hx hP hq hc
theorem auA {i j o:Nat} {cs:List Value} {sh:Option (TypeId × Nat)} (hx:ev ρ x=some (.pointer (some ⟨b,q,none⟩))) (hs:nthS i r=some ⟨b,o,cs,sh⟩) (hq:q=o+j) (hc:aZ cs j v) (hP:mv Tryz.prog t=some false):n3 Tryz.prog ρ l r ⟨D,.load t x,T,A,B,C⟩ v:=n4 i j hs rfl hx hP hq hc
theorem Ost {K:Kx} {i j o:Nat} {cs gU:List Value} {sh:Option (TypeId × Nat)} (hx:ev ρ x=some (.pointer (some ⟨b,q,none⟩))) (hs:nthS i l=some ⟨b,o,cs,sh⟩) (hq:q=o+j) (hy:ev ρ y=some v) (hc:c7 cs j v gU) (hd:D=none) (hP:eW Tryz.prog t=some 1):kC Tryz.prog K ρ l r ⟨D,.store t x y,T,A,B,C⟩ (fun ρ' l'=>ρ'=ρ∧l'=setS i ⟨b,o,gU,sh⟩ l):=iY i j hs rfl hx hy hP hc.2.2 hq hc.2.1 hd hc.1
theorem dS {s:au} {l:List au}:nthS 0 (s::l)=some s:=rfl
theorem ae {i:Nat} {s u:au} {l:List au} (h:nthS i l=some s):nthS (i+1) (u::l)=some s:=h
theorem Qz {n:Nat}:n+0=n:=rfl
theorem Qm {n k:Nat}:n+0*k=n:=by rw[Nat.zero_mul];rfl
theorem Js {q o:Nat} (h:Nat.ble o q=true):q=o+(q-o):=by have:=Nat.le_of_ble_eq_true h;omega
theorem Jz {j:Nat}:j=0+j:=(Nat.zero_add j).symm
end
class kB (bo:BinOp) (X Y:Value) (v:outParam Value) (H:outParam Prop):Prop where
  h:H→adS bo X Y v
class XZ (X:Value) (s t:TypeId) (v:outParam Value) (H:outParam Prop):Prop where
  h:H→adT X v s t
class BnW (bo:BinOp) (X Y:Value) (v:outParam Value) (H:outParam Prop):Prop where
  h:H→adS bo X Y v
class CcW (X:Value) (s t:TypeId) (v:outParam Value) (H:outParam Prop):Prop where
  h:H→adT X v s t
instance asb {m n:Nat}:kB .add (.int .u8 ((m:Nat):Int)) (.int .u8 ((n:Nat):Int)) ((.int .u8 ((m+n:Nat):Int))) (m+n≤255):=⟨fun h _ _ _ _ _ _ ho hx hy=>ir m n ho hx hy h⟩
instance asc {m n:Nat}:kB .add (.int .u16 ((m:Nat):Int)) (.int .u16 ((n:Nat):Int)) ((.int .u16 ((m+n:Nat):Int))) (m+n≤65535):=⟨fun h _ _ _ _ _ _ ho hx hy=>P5 m n ho hx hy h⟩
instance asd {m n:Nat}:kB .add (.int .u32 ((m:Nat):Int)) (.int .u32 ((n:Nat):Int)) ((.int .u32 ((m+n:Nat):Int))) (m+n≤4294967295):=⟨fun h _ _ _ _ _ _ ho hx hy=>B9 m n ho hx hy h⟩
instance ase {m n:Nat}:kB .add (.int .u64 ((m:Nat):Int)) (.int .u64 ((n:Nat):Int)) ((.int .u64 ((m+n:Nat):Int))) (m+n≤18446744073709551615):=⟨fun h _ _ _ _ _ _ ho hx hy=>adf m n ho hx hy h⟩
instance asf {m n:Nat}:kB .add (.int .i16 ((m:Nat):Int)) (.int .i16 ((n:Nat):Int)) ((.int .i16 ((m+n:Nat):Int))) (m+n≤32767):=⟨fun h _ _ _ _ _ _ ho hx hy=>vm m n ho hx hy h⟩
instance asg {m n:Nat}:kB .add (.int .i32 ((m:Nat):Int)) (.int .i32 ((n:Nat):Int)) ((.int .i32 ((m+n:Nat):Int))) (m+n≤2147483647):=⟨fun h _ _ _ _ _ _ ho hx hy=>adg m n ho hx hy h⟩
instance ash {m n:Nat}:kB .add (.int .i64 ((m:Nat):Int)) (.int .i64 ((n:Nat):Int)) ((.int .i64 ((m+n:Nat):Int))) (m+n≤9223372036854775807):=⟨fun h _ _ _ _ _ _ ho hx hy=>aF m n ho hx hy h⟩
instance asi {m n:Nat}:BnW .add (.int .u8 ((m:Nat):Int)) (.int .u8 ((n:Nat):Int)) ((.int .u8 (((m+n)%256:Nat):Int))) (True):=⟨fun h _ _ _ _ _ _ ho hx hy=>vn m n ho hx hy⟩
instance asj {m n:Nat}:kB .and (.int .u8 ((m:Nat):Int)) (.int .u8 ((n:Nat):Int)) ((.int .u8 ((m&&&n:Nat):Int))) ((m<256∨n<256)∧m<256∧n<256):=⟨fun h _ _ _ _ _ _ ho hx hy=>fY m n ho hx hy h.1 h.2.1 h.2.2⟩
instance asl {m n:Nat}:kB .and (.int .u64 ((m:Nat):Int)) (.int .u64 ((n:Nat):Int)) ((.int .u64 ((m&&&n:Nat):Int))) ((m<18446744073709551616∨n<18446744073709551616)∧m<18446744073709551616∧n<18446744073709551616):=⟨fun h _ _ _ _ _ _ ho hx hy=>lz m n ho hx hy h.1 h.2.1 h.2.2⟩
instance adU {m n:Nat}:kB .andNot (.int .u64 ((m:Nat):Int)) (.int .u64 ((n:Nat):Int)) ((.int .u64 ((m&&&(18446744073709551615-n):Nat):Int))) (m<18446744073709551616∧n<18446744073709551616):=⟨fun h _ _ _ _ _ _ ho hx hy=>LS m n ho hx hy h.1 h.2⟩
instance auB {m:Nat} {s t:TypeId} {D:TypeDesc} {k:IntKind} [cs:kH s D] [ct:kH t (.int .u8)]:XZ (.int k ((m:Nat):Int)) s t ((.int .u8 ((m:Nat):Int))) (m≤255):=⟨fun h _ _ _ ho hx=>akD m cs.h ct.h ho hx h⟩
instance auC {m:Nat} {s t:TypeId} {D:TypeDesc} {k:IntKind} [cs:kH s D] [ct:kH t (.int .u16)]:XZ (.int k ((m:Nat):Int)) s t ((.int .u16 ((m:Nat):Int))) (m≤65535):=⟨fun h _ _ _ ho hx=>aam m cs.h ct.h ho hx h⟩
instance auD {m:Nat} {s t:TypeId} {D:TypeDesc} {k:IntKind} [cs:kH s D] [ct:kH t (.int .u32)]:XZ (.int k ((m:Nat):Int)) s t ((.int .u32 ((m:Nat):Int))) (m≤4294967295):=⟨fun h _ _ _ ho hx=>aan m cs.h ct.h ho hx h⟩
instance auE {m:Nat} {s t:TypeId} {D:TypeDesc} {k:IntKind} [cs:kH s D] [ct:kH t (.int .u64)]:XZ (.int k ((m:Nat):Int)) s t ((.int .u64 ((m:Nat):Int))) (m≤18446744073709551615):=⟨fun h _ _ _ ho hx=>ub m cs.h ct.h ho hx h⟩
instance auF {m:Nat} {s t:TypeId} {D:TypeDesc} {k:IntKind} [cs:kH s D] [ct:kH t (.int .i8)]:XZ (.int k ((m:Nat):Int)) s t ((.int .i8 ((m:Nat):Int))) (m≤127):=⟨fun h _ _ _ ho hx=>akE m cs.h ct.h ho hx h⟩
instance auG {m:Nat} {s t:TypeId} {D:TypeDesc} {k:IntKind} [cs:kH s D] [ct:kH t (.int .i16)]:XZ (.int k ((m:Nat):Int)) s t ((.int .i16 ((m:Nat):Int))) (m≤32767):=⟨fun h _ _ _ ho hx=>akF m cs.h ct.h ho hx h⟩
instance auH {m:Nat} {s t:TypeId} {D:TypeDesc} {k:IntKind} [cs:kH s D] [ct:kH t (.int .i32)]:XZ (.int k ((m:Nat):Int)) s t ((.int .i32 ((m:Nat):Int))) (m≤2147483647):=⟨fun h _ _ _ ho hx=>akG m cs.h ct.h ho hx h⟩
instance auI {m:Nat} {s t:TypeId} {D:TypeDesc} {k:IntKind} [cs:kH s D] [ct:kH t (.int .i64)]:XZ (.int k ((m:Nat):Int)) s t ((.int .i64 ((m:Nat):Int))) (m≤9223372036854775807):=⟨fun h _ _ _ ho hx=>Kv m cs.h ct.h ho hx h⟩
instance auJ {m:Nat} {s t:TypeId} {D:TypeDesc} {k:IntKind} [cs:kH s D] [ct:kH t (.int .u8)]:CcW (.int k ((m:Nat):Int)) s t ((.int .u8 ((m%256:Nat):Int))) (True):=⟨fun h _ _ _ ho hx=>az m cs.h ct.h ho hx⟩
instance auK {m:Nat} {s t:TypeId} {D:TypeDesc} {k:IntKind} [cs:kH s D] [ct:kH t (.int .u16)]:CcW (.int k ((m:Nat):Int)) s t ((.int .u16 ((m%65536:Nat):Int))) (True):=⟨fun h _ _ _ ho hx=>akH m cs.h ct.h ho hx⟩
instance auL {m:Nat} {s t:TypeId} {D:TypeDesc} {k:IntKind} [cs:kH s D] [ct:kH t (.int .u32)]:CcW (.int k ((m:Nat):Int)) s t ((.int .u32 ((m%4294967296:Nat):Int))) (True):=⟨fun h _ _ _ ho hx=>akI m cs.h ct.h ho hx⟩
instance asm {m n:Nat}:kB .mul (.int .u8 ((m:Nat):Int)) (.int .u8 ((n:Nat):Int)) ((.int .u8 ((m*n:Nat):Int))) (m*n≤255):=⟨fun h _ _ _ _ _ _ ho hx hy=>adh m n ho hx hy h⟩
instance asn {m n:Nat}:kB .mul (.int .u32 ((m:Nat):Int)) (.int .u32 ((n:Nat):Int)) ((.int .u32 ((m*n:Nat):Int))) (m*n≤4294967295):=⟨fun h _ _ _ _ _ _ ho hx hy=>adi m n ho hx hy h⟩
instance aso {m n:Nat}:kB .mul (.int .u64 ((m:Nat):Int)) (.int .u64 ((n:Nat):Int)) ((.int .u64 ((m*n:Nat):Int))) (m*n≤18446744073709551615):=⟨fun h _ _ _ _ _ _ ho hx hy=>Hg m n ho hx hy h⟩
instance asq {m n:Nat}:kB .mul (.int .i16 ((m:Nat):Int)) (.int .i16 ((n:Nat):Int)) ((.int .i16 ((m*n:Nat):Int))) (m*n≤32767):=⟨fun h _ _ _ _ _ _ ho hx hy=>adj m n ho hx hy h⟩
instance asr {m n:Nat}:kB .mul (.int .i32 ((m:Nat):Int)) (.int .i32 ((n:Nat):Int)) ((.int .i32 ((m*n:Nat):Int))) (m*n≤2147483647):=⟨fun h _ _ _ _ _ _ ho hx hy=>adk m n ho hx hy h⟩
instance ass {m n:Nat}:kB .mul (.int .i64 ((m:Nat):Int)) (.int .i64 ((n:Nat):Int)) ((.int .i64 ((m*n:Nat):Int))) (m*n≤9223372036854775807):=⟨fun h _ _ _ _ _ _ ho hx hy=>fB m n ho hx hy h⟩
instance ast {m n:Nat}:BnW .mul (.int .u32 ((m:Nat):Int)) (.int .u32 ((n:Nat):Int)) ((.int .u32 (((m*n)%4294967296:Nat):Int))) (True):=⟨fun h _ _ _ _ _ _ ho hx hy=>adl m n ho hx hy⟩
instance auM {m n:Nat}:kB .or (.int .u8 ((m:Nat):Int)) (.int .u8 ((n:Nat):Int)) ((.int .u8 ((m|||n:Nat):Int))) (m<256∧n<256):=⟨fun h _ _ _ _ _ _ ho hx hy=>Ey m n ho hx hy h.1 h.2⟩
instance auN {m n:Nat}:kB .or (.int .u32 ((m:Nat):Int)) (.int .u32 ((n:Nat):Int)) ((.int .u32 ((m|||n:Nat):Int))) (m<4294967296∧n<4294967296):=⟨fun h _ _ _ _ _ _ ho hx hy=>Kw m n ho hx hy h.1 h.2⟩
instance auO {m n:Nat}:kB .or (.int .u64 ((m:Nat):Int)) (.int .u64 ((n:Nat):Int)) ((.int .u64 ((m|||n:Nat):Int))) (m<18446744073709551616∧n<18446744073709551616):=⟨fun h _ _ _ _ _ _ ho hx hy=>lQ m n ho hx hy h.1 h.2⟩
instance asu {m n:Nat}:kB .quo (.int .u8 ((m:Nat):Int)) (.int .u8 ((n:Nat):Int)) ((.int .u8 ((m/n:Nat):Int))) (0<n∧m≤255):=⟨fun h _ _ _ _ _ _ ho hx hy=>adm m n ho hx hy h.1 h.2⟩
instance asv {m n:Nat}:kB .quo (.int .u32 ((m:Nat):Int)) (.int .u32 ((n:Nat):Int)) ((.int .u32 ((m/n:Nat):Int))) (0<n∧m≤4294967295):=⟨fun h _ _ _ _ _ _ ho hx hy=>P7 m n ho hx hy h.1 h.2⟩
instance asw {m n:Nat}:kB .quo (.int .u64 ((m:Nat):Int)) (.int .u64 ((n:Nat):Int)) ((.int .u64 ((m/n:Nat):Int))) (0<n∧m≤18446744073709551615):=⟨fun h _ _ _ _ _ _ ho hx hy=>Hh m n ho hx hy h.1 h.2⟩
instance asx {m n:Nat}:kB .quo (.int .i64 ((m:Nat):Int)) (.int .i64 ((n:Nat):Int)) ((.int .i64 ((m/n:Nat):Int))) (0<n∧m≤9223372036854775807):=⟨fun h _ _ _ _ _ _ ho hx hy=>si m n ho hx hy h.1 h.2⟩
instance asy {m n:Nat} {k':IntKind}:kB .shl (.int .u8 ((m:Nat):Int)) (.int k' ((n:Nat):Int)) ((.int .u8 ((m*2^n:Nat):Int))) (n≤8∧m*2^n≤255):=⟨fun h _ _ _ _ _ _ ho hx hy=>adn m n ho hx hy h.1 h.2⟩
instance asz {m n:Nat} {k':IntKind}:kB .shl (.int .u16 ((m:Nat):Int)) (.int k' ((n:Nat):Int)) ((.int .u16 ((m*2^n:Nat):Int))) (n≤16∧m*2^n≤65535):=⟨fun h _ _ _ _ _ _ ho hx hy=>ado m n ho hx hy h.1 h.2⟩
instance asA {m n:Nat} {k':IntKind}:kB .shl (.int .u32 ((m:Nat):Int)) (.int k' ((n:Nat):Int)) ((.int .u32 ((m*2^n:Nat):Int))) (n≤32∧m*2^n≤4294967295):=⟨fun h _ _ _ _ _ _ ho hx hy=>P8 m n ho hx hy h.1 h.2⟩
instance asB {m n:Nat} {k':IntKind}:kB .shl (.int .u64 ((m:Nat):Int)) (.int k' ((n:Nat):Int)) ((.int .u64 ((m*2^n:Nat):Int))) (n≤64∧m*2^n≤18446744073709551615):=⟨fun h _ _ _ _ _ _ ho hx hy=>adp m n ho hx hy h.1 h.2⟩
instance asC {m n:Nat} {k':IntKind}:kB .shl (.int .i16 ((m:Nat):Int)) (.int k' ((n:Nat):Int)) ((.int .i16 ((m*2^n:Nat):Int))) (n≤16∧m*2^n≤32767):=⟨fun h _ _ _ _ _ _ ho hx hy=>P9 m n ho hx hy h.1 h.2⟩
instance asD {m n:Nat} {k':IntKind}:kB .shl (.int .i32 ((m:Nat):Int)) (.int k' ((n:Nat):Int)) ((.int .i32 ((m*2^n:Nat):Int))) (n≤32∧m*2^n≤2147483647):=⟨fun h _ _ _ _ _ _ ho hx hy=>adq m n ho hx hy h.1 h.2⟩
instance asE {m n:Nat} {k':IntKind}:kB .shl (.int .i64 ((m:Nat):Int)) (.int k' ((n:Nat):Int)) ((.int .i64 ((m*2^n:Nat):Int))) (n≤64∧m*2^n≤9223372036854775807):=⟨fun h _ _ _ _ _ _ ho hx hy=>vo m n ho hx hy h.1 h.2⟩
instance asF {m n:Nat} {k':IntKind}:BnW .shl (.int .u16 ((m:Nat):Int)) (.int k' ((n:Nat):Int)) ((.int .u16 ((m*2^n%65536:Nat):Int))) (True):=⟨fun h _ _ _ _ _ _ ho hx hy=>P' m n ho hx hy⟩
instance asG {m n:Nat} {k':IntKind}:BnW .shl (.int .u64 ((m:Nat):Int)) (.int k' ((n:Nat):Int)) ((.int .u64 ((m*2^n%18446744073709551616:Nat):Int))) (True):=⟨fun h _ _ _ _ _ _ ho hx hy=>jy m n ho hx hy⟩
instance asH {m n:Nat} {k':IntKind}:kB .shr (.int .u8 ((m:Nat):Int)) (.int k' ((n:Nat):Int)) ((.int .u8 ((m/2^n:Nat):Int))) (m<256):=⟨fun h _ _ _ _ _ _ ho hx hy=>Hi m n ho hx hy h⟩
instance asI {m n:Nat} {k':IntKind}:kB .shr (.int .u16 ((m:Nat):Int)) (.int k' ((n:Nat):Int)) ((.int .u16 ((m/2^n:Nat):Int))) (m<65536):=⟨fun h _ _ _ _ _ _ ho hx hy=>ax m n ho hx hy h⟩
instance asJ {m n:Nat} {k':IntKind}:kB .shr (.int .u32 ((m:Nat):Int)) (.int k' ((n:Nat):Int)) ((.int .u32 ((m/2^n:Nat):Int))) (m<4294967296):=⟨fun h _ _ _ _ _ _ ho hx hy=>sk m n ho hx hy h⟩
instance asK {m n:Nat} {k':IntKind}:kB .shr (.int .u64 ((m:Nat):Int)) (.int k' ((n:Nat):Int)) ((.int .u64 ((m/2^n:Nat):Int))) (m<18446744073709551616):=⟨fun h _ _ _ _ _ _ ho hx hy=>aG m n ho hx hy h⟩
instance asL {m n:Nat} {k':IntKind}:kB .shr (.int .i16 ((m:Nat):Int)) (.int k' ((n:Nat):Int)) ((.int .i16 ((m/2^n:Nat):Int))) (m<65536):=⟨fun h _ _ _ _ _ _ ho hx hy=>adr m n ho hx hy h⟩
instance asM {m n:Nat} {k':IntKind}:kB .shr (.int .i32 ((m:Nat):Int)) (.int k' ((n:Nat):Int)) ((.int .i32 ((m/2^n:Nat):Int))) (m<4294967296):=⟨fun h _ _ _ _ _ _ ho hx hy=>Qa m n ho hx hy h⟩
instance asN {m n:Nat} {k':IntKind}:kB .shr (.int .i64 ((m:Nat):Int)) (.int k' ((n:Nat):Int)) ((.int .i64 ((m/2^n:Nat):Int))) (m<18446744073709551616):=⟨fun h _ _ _ _ _ _ ho hx hy=>Hj m n ho hx hy h⟩
instance asO {m n:Nat}:kB .sub (.int .u8 ((m:Nat):Int)) (.int .u8 ((n:Nat):Int)) ((.int .u8 ((m-n:Nat):Int))) (n≤m∧m≤255):=⟨fun h _ _ _ _ _ _ ho hx hy=>yj m n ho hx hy h⟩
instance asP {m n:Nat}:kB .sub (.int .u16 ((m:Nat):Int)) (.int .u16 ((n:Nat):Int)) ((.int .u16 ((m-n:Nat):Int))) (n≤m∧m≤65535):=⟨fun h _ _ _ _ _ _ ho hx hy=>ads m n ho hx hy h⟩
instance asQ {m n:Nat}:kB .sub (.int .u32 ((m:Nat):Int)) (.int .u32 ((n:Nat):Int)) ((.int .u32 ((m-n:Nat):Int))) (n≤m∧m≤4294967295):=⟨fun h _ _ _ _ _ _ ho hx hy=>Ca m n ho hx hy h⟩
instance asR {m n:Nat}:kB .sub (.int .u64 ((m:Nat):Int)) (.int .u64 ((n:Nat):Int)) ((.int .u64 ((m-n:Nat):Int))) (n≤m∧m≤18446744073709551615):=⟨fun h _ _ _ _ _ _ ho hx hy=>jz m n ho hx hy h⟩
instance asS {m n:Nat}:kB .sub (.int .i16 ((m:Nat):Int)) (.int .i16 ((n:Nat):Int)) ((.int .i16 ((m-n:Nat):Int))) (n≤m∧m≤32767):=⟨fun h _ _ _ _ _ _ ho hx hy=>Cd m n ho hx hy h⟩
instance asT {m n:Nat}:kB .sub (.int .i32 ((m:Nat):Int)) (.int .i32 ((n:Nat):Int)) ((.int .i32 ((m-n:Nat):Int))) (n≤m∧m≤2147483647):=⟨fun h _ _ _ _ _ _ ho hx hy=>adt m n ho hx hy h⟩
instance asU {m n:Nat}:kB .sub (.int .i64 ((m:Nat):Int)) (.int .i64 ((n:Nat):Int)) ((.int .i64 ((m-n:Nat):Int))) (n≤m∧m≤9223372036854775807):=⟨fun h _ _ _ _ _ _ ho hx hy=>sn m n ho hx hy h⟩
instance asV {m n:Nat}:BnW .sub (.int .u8 ((m:Nat):Int)) (.int .u8 ((n:Nat):Int)) ((.int .u8 (((m+256-n)%256:Nat):Int))) (n≤256):=⟨fun h _ _ _ _ _ _ ho hx hy=>adu m n ho hx hy h⟩
instance asW {m n:Nat}:BnW .sub (.int .u32 ((m:Nat):Int)) (.int .u32 ((n:Nat):Int)) ((.int .u32 (((m+4294967296-n)%4294967296:Nat):Int))) (n≤4294967296):=⟨fun h _ _ _ _ _ _ ho hx hy=>adw m n ho hx hy h⟩
instance aCH {m n:Nat} {k:IntKind}:kB .lss (.int k ((m:Nat):Int)) (.int k ((n:Nat):Int)) (.bool (decide (((m:Nat):Int)<((n:Nat):Int)))) True:=⟨fun _ _ _ _ _ _ _ ho hx hy=>rA m n ho hx hy⟩
instance aCI {m n:Nat} {k:IntKind}:kB .leq (.int k ((m:Nat):Int)) (.int k ((n:Nat):Int)) (.bool (decide (((m:Nat):Int)≤((n:Nat):Int)))) True:=⟨fun _ _ _ _ _ _ _ ho hx hy=>Zle m n ho hx hy⟩
instance aCJ {m n:Nat} {k:IntKind}:kB .gtr (.int k ((m:Nat):Int)) (.int k ((n:Nat):Int)) (.bool (decide (((n:Nat):Int)<((m:Nat):Int)))) True:=⟨fun _ _ _ _ _ _ _ ho hx hy=>zl m n ho hx hy⟩
instance aCK {m n:Nat} {k:IntKind}:kB .geq (.int k ((m:Nat):Int)) (.int k ((n:Nat):Int)) (.bool (decide (((n:Nat):Int)≤((m:Nat):Int)))) True:=⟨fun _ _ _ _ _ _ _ ho hx hy=>v8 m n ho hx hy⟩
instance aCL {m n:Nat} {k:IntKind}:kB .eql (.int k ((m:Nat):Int)) (.int k ((n:Nat):Int)) (.bool (decide (((m:Nat):Int)=((n:Nat):Int)))) True:=⟨fun _ _ _ _ _ _ _ ho hx hy=>C6 m n ho hx hy⟩
instance aCM {m n:Nat} {k:IntKind}:kB .neq (.int k ((m:Nat):Int)) (.int k ((n:Nat):Int)) (.bool (decide (((m:Nat):Int)≠((n:Nat):Int)))) True:=⟨fun _ _ _ _ _ _ _ ho hx hy=>Ex m n ho hx hy⟩
theorem Tot {p:Prop} (h:p:=by first|omega|trivial):p:=h
theorem Tbv {p:Prop} (h:p:=by first|exact kB.h Tot|exact BnW.h Tot):p:=h
theorem Tcv {p:Prop} (h:p:=by first|exact XZ.h Tot|exact CcW.h Tot):p:=h
theorem Wy {ρ:aB} {o:Oper} {v:Value} (h:aH Tryz.prog ρ o v:=by first|((with_reducible apply Ofa);exact rfl;exact Tfo)|((with_reducible apply auw);exact zK;exact zK;exact Tbv)|((with_reducible apply auy);exact zK;exact Tcv)|((with_reducible apply auu);exact rfl;exact rfl;exact rfl;exact XX)|((with_reducible apply Oix);exact rfl;exact zK;exact Tse;omega;(first|with_reducible exact Nat.zero_add _|with_reducible exact Qz|with_reducible exact Nat.add_assoc _ _ _|exact rfl))|((with_reducible apply auz);exact rfl;exact zK;exact Tae;omega;(first|with_reducible exact Nat.zero_add _|with_reducible exact Qz|with_reducible exact Nat.add_assoc _ _ _|exact rfl))|((with_reducible apply Oia);exact rfl;exact zK;exact Tae;omega;(first|with_reducible exact Qm|with_reducible exact Nat.zero_add _|with_reducible exact Nat.add_assoc _ _ _|exact rfl))|((with_reducible apply auv);exact rfl;exact rfl;exact rfl;exact XX)|((with_reducible apply Obo);first|exact dj rfl rfl XX|exact xz rfl rfl XX|exact Gn rfl rfl XX|exact Gm rfl rfl XX|exact Ln rfl rfl XX|exact Lm rfl rfl XX)|((with_reducible apply Omi);exact ab5 rfl rfl XX rfl)|((with_reducible apply Osl);first|exact rn rfl rfl zK Tse Tom|exact ab2 rfl rfl zK Tae Tom)|((with_reducible apply Oun);first|exact ajF rfl rfl|exact Gk rfl rfl)):aH Tryz.prog ρ o v:=h
theorem Wr {ρ:aB} {l r:List au} {o:Oper} {v:Value} (h:n3 Tryz.prog ρ l r o v:=by first|((with_reducible apply Old);exact rfl;first|(exact dS;(first|with_reducible exact rfl|with_reducible exact Jz|exact rfl|(apply Js;exact rfl));(first|((with_reducible apply aZ.aa);(first|omega|(simp;omega)|simp))|((with_reducible apply aZ.ints);omega)|((with_reducible apply aZ.lit);exact rfl));exact Tag)|(exact ae (dS);(first|with_reducible exact rfl|with_reducible exact Jz|exact rfl|(apply Js;exact rfl));(first|((with_reducible apply aZ.aa);(first|omega|(simp;omega)|simp))|((with_reducible apply aZ.ints);omega)|((with_reducible apply aZ.lit);exact rfl));exact Tag)|(exact ae (ae (dS));(first|with_reducible exact rfl|with_reducible exact Jz|exact rfl|(apply Js;exact rfl));(first|((with_reducible apply aZ.aa);(first|omega|(simp;omega)|simp))|((with_reducible apply aZ.ints);omega)|((with_reducible apply aZ.lit);exact rfl));exact Tag)|(exact ae (ae (ae (dS)));(first|with_reducible exact rfl|with_reducible exact Jz|exact rfl|(apply Js;exact rfl));(first|((with_reducible apply aZ.aa);(first|omega|(simp;omega)|simp))|((with_reducible apply aZ.ints);omega)|((with_reducible apply aZ.lit);exact rfl));exact Tag)|(exact ae (ae (ae (ae (dS))));(first|with_reducible exact rfl|with_reducible exact Jz|exact rfl|(apply Js;exact rfl));(first|((with_reducible apply aZ.aa);(first|omega|(simp;omega)|simp))|((with_reducible apply aZ.ints);omega)|((with_reducible apply aZ.lit);exact rfl));exact Tag)|(exact ae (ae (ae (ae (ae (dS)))));(first|with_reducible exact rfl|with_reducible exact Jz|exact rfl|(apply Js;exact rfl));(first|((with_reducible apply aZ.aa);(first|omega|(simp;omega)|simp))|((with_reducible apply aZ.ints);omega)|((with_reducible apply aZ.lit);exact rfl));exact Tag)|(exact ae (ae (ae (ae (ae (ae (dS))))));(first|with_reducible exact rfl|with_reducible exact Jz|exact rfl|(apply Js;exact rfl));(first|((with_reducible apply aZ.aa);(first|omega|(simp;omega)|simp))|((with_reducible apply aZ.ints);omega)|((with_reducible apply aZ.lit);exact rfl));exact Tag)|(exact ae (ae (ae (ae (ae (ae (ae (dS)))))));(first|with_reducible exact rfl|with_reducible exact Jz|exact rfl|(apply Js;exact rfl));(first|((with_reducible apply aZ.aa);(first|omega|(simp;omega)|simp))|((with_reducible apply aZ.ints);omega)|((with_reducible apply aZ.lit);exact rfl));exact Tag)|(exact ae (ae (ae (ae (ae (ae (ae (ae (dS))))))));(first|with_reducible exact rfl|with_reducible exact Jz|exact rfl|(apply Js;exact rfl));(first|((with_reducible apply aZ.aa);(first|omega|(simp;omega)|simp))|((with_reducible apply aZ.ints);omega)|((with_reducible apply aZ.lit);exact rfl));exact Tag)|(exact ae (ae (ae (ae (ae (ae (ae (ae (ae (dS)))))))));(first|with_reducible exact rfl|with_reducible exact Jz|exact rfl|(apply Js;exact rfl));(first|((with_reducible apply aZ.aa);(first|omega|(simp;omega)|simp))|((with_reducible apply aZ.ints);omega)|((with_reducible apply aZ.lit);exact rfl));exact Tag)|(exact ae (ae (ae (ae (ae (ae (ae (ae (ae (ae (dS))))))))));(first|with_reducible exact rfl|with_reducible exact Jz|exact rfl|(apply Js;exact rfl));(first|((with_reducible apply aZ.aa);(first|omega|(simp;omega)|simp))|((with_reducible apply aZ.ints);omega)|((with_reducible apply aZ.lit);exact rfl));exact Tag)|(exact ae (ae (ae (ae (ae (ae (ae (ae (ae (ae (ae (dS)))))))))));(first|with_reducible exact rfl|with_reducible exact Jz|exact rfl|(apply Js;exact rfl));(first|((with_reducible apply aZ.aa);(first|omega|(simp;omega)|simp))|((with_reducible apply aZ.ints);omega)|((with_reducible apply aZ.lit);exact rfl));exact Tag)|(exact ae (ae (ae (ae (ae (ae (ae (ae (ae (ae (ae (ae (dS))))))))))));(first|with_reducible exact rfl|with_reducible exact Jz|exact rfl|(apply Js;exact rfl));(first|((with_reducible apply aZ.aa);(first|omega|(simp;omega)|simp))|((with_reducible apply aZ.ints);omega)|((with_reducible apply aZ.lit);exact rfl));exact Tag))|((with_reducible apply auA);exact rfl;first|(exact dS;(first|with_reducible exact rfl|with_reducible exact Jz|exact rfl|(apply Js;exact rfl));(first|((with_reducible apply aZ.aa);(first|omega|(simp;omega)|simp))|((with_reducible apply aZ.ints);omega)|((with_reducible apply aZ.lit);exact rfl));exact Tag)|(exact ae (dS);(first|with_reducible exact rfl|with_reducible exact Jz|exact rfl|(apply Js;exact rfl));(first|((with_reducible apply aZ.aa);(first|omega|(simp;omega)|simp))|((with_reducible apply aZ.ints);omega)|((with_reducible apply aZ.lit);exact rfl));exact Tag)|(exact ae (ae (dS));(first|with_reducible exact rfl|with_reducible exact Jz|exact rfl|(apply Js;exact rfl));(first|((with_reducible apply aZ.aa);(first|omega|(simp;omega)|simp))|((with_reducible apply aZ.ints);omega)|((with_reducible apply aZ.lit);exact rfl));exact Tag)|(exact ae (ae (ae (dS)));(first|with_reducible exact rfl|with_reducible exact Jz|exact rfl|(apply Js;exact rfl));(first|((with_reducible apply aZ.aa);(first|omega|(simp;omega)|simp))|((with_reducible apply aZ.ints);omega)|((with_reducible apply aZ.lit);exact rfl));exact Tag)|(exact ae (ae (ae (ae (dS))));(first|with_reducible exact rfl|with_reducible exact Jz|exact rfl|(apply Js;exact rfl));(first|((with_reducible apply aZ.aa);(first|omega|(simp;omega)|simp))|((with_reducible apply aZ.ints);omega)|((with_reducible apply aZ.lit);exact rfl));exact Tag)|(exact ae (ae (ae (ae (ae (dS)))));(first|with_reducible exact rfl|with_reducible exact Jz|exact rfl|(apply Js;exact rfl));(first|((with_reducible apply aZ.aa);(first|omega|(simp;omega)|simp))|((with_reducible apply aZ.ints);omega)|((with_reducible apply aZ.lit);exact rfl));exact Tag)|(exact ae (ae (ae (ae (ae (ae (dS))))));(first|with_reducible exact rfl|with_reducible exact Jz|exact rfl|(apply Js;exact rfl));(first|((with_reducible apply aZ.aa);(first|omega|(simp;omega)|simp))|((with_reducible apply aZ.ints);omega)|((with_reducible apply aZ.lit);exact rfl));exact Tag)|(exact ae (ae (ae (ae (ae (ae (ae (dS)))))));(first|with_reducible exact rfl|with_reducible exact Jz|exact rfl|(apply Js;exact rfl));(first|((with_reducible apply aZ.aa);(first|omega|(simp;omega)|simp))|((with_reducible apply aZ.ints);omega)|((with_reducible apply aZ.lit);exact rfl));exact Tag)|(exact ae (ae (ae (ae (ae (ae (ae (ae (dS))))))));(first|with_reducible exact rfl|with_reducible exact Jz|exact rfl|(apply Js;exact rfl));(first|((with_reducible apply aZ.aa);(first|omega|(simp;omega)|simp))|((with_reducible apply aZ.ints);omega)|((with_reducible apply aZ.lit);exact rfl));exact Tag)|(exact ae (ae (ae (ae (ae (ae (ae (ae (ae (dS)))))))));(first|with_reducible exact rfl|with_reducible exact Jz|exact rfl|(apply Js;exact rfl));(first|((with_reducible apply aZ.aa);(first|omega|(simp;omega)|simp))|((with_reducible apply aZ.ints);omega)|((with_reducible apply aZ.lit);exact rfl));exact Tag))):n3 Tryz.prog ρ l r o v:=h
theorem We {K:Kx} {ρ X:aB} {l r Y:List au} {o:Oper} (h:kC Tryz.prog K ρ l r o (fun ρ' l'=>ρ'=X∧l'=Y):=by first|((with_reducible apply Ost);exact rfl;first|(exact dS;(first|with_reducible exact rfl|with_reducible exact Jz|exact rfl|(apply Js;exact rfl));exact zK;(first|((with_reducible apply c7.aa);(first|omega|(simp;omega)|simp))|((with_reducible apply c7.ints);(first|omega|(simp;omega)|simp))|((with_reducible apply c7.lit);exact rfl;exact rfl));exact rfl;exact LX)|(exact ae (dS);(first|with_reducible exact rfl|with_reducible exact Jz|exact rfl|(apply Js;exact rfl));exact zK;(first|((with_reducible apply c7.aa);(first|omega|(simp;omega)|simp))|((with_reducible apply c7.ints);(first|omega|(simp;omega)|simp))|((with_reducible apply c7.lit);exact rfl;exact rfl));exact rfl;exact LX)|(exact ae (ae (dS));(first|with_reducible exact rfl|with_reducible exact Jz|exact rfl|(apply Js;exact rfl));exact zK;(first|((with_reducible apply c7.aa);(first|omega|(simp;omega)|simp))|((with_reducible apply c7.ints);(first|omega|(simp;omega)|simp))|((with_reducible apply c7.lit);exact rfl;exact rfl));exact rfl;exact LX)|(exact ae (ae (ae (dS)));(first|with_reducible exact rfl|with_reducible exact Jz|exact rfl|(apply Js;exact rfl));exact zK;(first|((with_reducible apply c7.aa);(first|omega|(simp;omega)|simp))|((with_reducible apply c7.ints);(first|omega|(simp;omega)|simp))|((with_reducible apply c7.lit);exact rfl;exact rfl));exact rfl;exact LX)|(exact ae (ae (ae (ae (dS))));(first|with_reducible exact rfl|with_reducible exact Jz|exact rfl|(apply Js;exact rfl));exact zK;(first|((with_reducible apply c7.aa);(first|omega|(simp;omega)|simp))|((with_reducible apply c7.ints);(first|omega|(simp;omega)|simp))|((with_reducible apply c7.lit);exact rfl;exact rfl));exact rfl;exact LX)|(exact ae (ae (ae (ae (ae (dS)))));(first|with_reducible exact rfl|with_reducible exact Jz|exact rfl|(apply Js;exact rfl));exact zK;(first|((with_reducible apply c7.aa);(first|omega|(simp;omega)|simp))|((with_reducible apply c7.ints);(first|omega|(simp;omega)|simp))|((with_reducible apply c7.lit);exact rfl;exact rfl));exact rfl;exact LX)|(exact ae (ae (ae (ae (ae (ae (dS))))));(first|with_reducible exact rfl|with_reducible exact Jz|exact rfl|(apply Js;exact rfl));exact zK;(first|((with_reducible apply c7.aa);(first|omega|(simp;omega)|simp))|((with_reducible apply c7.ints);(first|omega|(simp;omega)|simp))|((with_reducible apply c7.lit);exact rfl;exact rfl));exact rfl;exact LX)|(exact ae (ae (ae (ae (ae (ae (ae (dS)))))));(first|with_reducible exact rfl|with_reducible exact Jz|exact rfl|(apply Js;exact rfl));exact zK;(first|((with_reducible apply c7.aa);(first|omega|(simp;omega)|simp))|((with_reducible apply c7.ints);(first|omega|(simp;omega)|simp))|((with_reducible apply c7.lit);exact rfl;exact rfl));exact rfl;exact LX)|(exact ae (ae (ae (ae (ae (ae (ae (ae (dS))))))));(first|with_reducible exact rfl|with_reducible exact Jz|exact rfl|(apply Js;exact rfl));exact zK;(first|((with_reducible apply c7.aa);(first|omega|(simp;omega)|simp))|((with_reducible apply c7.ints);(first|omega|(simp;omega)|simp))|((with_reducible apply c7.lit);exact rfl;exact rfl));exact rfl;exact LX)|(exact ae (ae (ae (ae (ae (ae (ae (ae (ae (dS)))))))));(first|with_reducible exact rfl|with_reducible exact Jz|exact rfl|(apply Js;exact rfl));exact zK;(first|((with_reducible apply c7.aa);(first|omega|(simp;omega)|simp))|((with_reducible apply c7.ints);(first|omega|(simp;omega)|simp))|((with_reducible apply c7.lit);exact rfl;exact rfl));exact rfl;exact LX)|(exact ae (ae (ae (ae (ae (ae (ae (ae (ae (ae (dS))))))))));(first|with_reducible exact rfl|with_reducible exact Jz|exact rfl|(apply Js;exact rfl));exact zK;(first|((with_reducible apply c7.aa);(first|omega|(simp;omega)|simp))|((with_reducible apply c7.ints);(first|omega|(simp;omega)|simp))|((with_reducible apply c7.lit);exact rfl;exact rfl));exact rfl;exact LX)|(exact ae (ae (ae (ae (ae (ae (ae (ae (ae (ae (ae (dS)))))))))));(first|with_reducible exact rfl|with_reducible exact Jz|exact rfl|(apply Js;exact rfl));exact zK;(first|((with_reducible apply c7.aa);(first|omega|(simp;omega)|simp))|((with_reducible apply c7.ints);(first|omega|(simp;omega)|simp))|((with_reducible apply c7.lit);exact rfl;exact rfl));exact rfl;exact LX)|(exact ae (ae (ae (ae (ae (ae (ae (ae (ae (ae (ae (ae (dS))))))))))));(first|with_reducible exact rfl|with_reducible exact Jz|exact rfl|(apply Js;exact rfl));exact zK;(first|((with_reducible apply c7.aa);(first|omega|(simp;omega)|simp))|((with_reducible apply c7.ints);(first|omega|(simp;omega)|simp))|((with_reducible apply c7.lit);exact rfl;exact rfl));exact rfl;exact LX))):kC Tryz.prog K ρ l r o (fun ρ' l'=>ρ'=X∧l'=Y):=h
section
variable {P:Program} {K:Kx} {Q:Exit→Act→World→Prop} {ρ:aB} {l r:List au} {x y:Code} {c:Operand} {p:Prop} [Decidable p] {id id':Nat}
theorem Gct (hc:ev ρ c=some (.bool true)):cg (G P K Q x ρ l r) (G P K Q (.cond c x y) ρ l r):=G.ajE hc
theorem Gcf (hc:ev ρ c=some (.bool false)):cg (G P K Q y ρ l r) (G P K Q (.cond c x y) ρ l r):=G.gJ hc
theorem Gdt (hc:ev ρ c=some (.bool (decide p))) (hp:p):cg (G P K Q x ρ l r) (G P K Q (.cond c x y) ρ l r):=G.iH hc hp
theorem Gdf (hc:ev ρ c=some (.bool (decide p))) (hp:¬p):cg (G P K Q y ρ l r) (G P K Q (.cond c x y) ρ l r):=G.eL hc hp
theorem Isq:cg (G P K (Exit.then (y.wp P Q) Q) x ρ l r) (G P K Q (.seq x y) ρ l r):=G.seq
theorem Ibl:cg (G P K (Exit.inBlock id Q) x ρ l r) (G P K Q (.block id x) ρ l r):=G.block
theorem Isk:cg (GQ K Q .normal ρ l r) (G P K Q .skip ρ l r):=G.skip
theorem Itn:cg (G P K Q y ρ l r) (GQ K (Exit.then (y.wp P Q) Q) .normal ρ l r):=GQ.aW
theorem Ite {X:Act→World→Prop}:cg (GQ K Q (.exit id) ρ l r) (GQ K (Exit.then X Q) (.exit id) ρ l r):=GQ.de
theorem Ibn:cg (GQ K Q .normal ρ l r) (GQ K (Exit.inBlock id Q) .normal ρ l r):=GQ.dO
theorem Ibe:cg (GQ K Q .normal ρ l r) (GQ K (Exit.inBlock id Q) (.exit id) ρ l r):=GQ.eM
theorem Iex:cg (GQ K Q (.exit id) ρ l r) (G P K Q (.exit id) ρ l r):=G.exit
theorem Irt:cg (GQ K Q .ret ρ l r) (G P K Q .ret ρ l r):=G.ret
theorem Iln {L:List Oper}:cg (GQ K Q .normal ρ l r) (GL P K Q L [] ρ l r):=GL.nil
theorem Ipn {L:List Oper}:cg (GQ K Q .normal ρ l r) (GP P K Q L [] ρ l r):=GP.nil
theorem Ign {L:List Oper}:cg (GQ K Q .normal ρ l r) (GT P K Q L .nil ρ l r):=GT.nil
theorem Izn {L:List Oper}:cg (G P K Q y ρ l r) (GL P K (Exit.then (y.wp P Q) Q) L [] ρ l r):=Zn
theorem Iz4 {L:List Oper}:cg (G P K (Exit.then (y.wp P Q) Q) x ρ l r) (GL P K (Exit.then ((Code.seq x y).wp P Q) Q) L [] ρ l r):=bN
theorem Iz7:cg (G P K Q y ρ l r) (G P K (Exit.then (y.wp P Q) Q) .skip ρ l r):=gO
theorem Gbo (wv:Nat.beq id' id=false):cg (GQ K Q (.exit id') ρ l r) (GQ K (Exit.inBlock id Q) (.exit id') ρ l r):=GQ.Gi wv
end
section
variable {P:Program} {K:Kx} {Q:Exit→Act→World→Prop} {ρ ρ':aB} {l r:List au} {x:Code} {e:Exit} {k:Prop} {L rest cI:List Oper} {o:Oper} {os:List (Nat × Kd)} {pl:Pl}
theorem Dq (h:cg k (GQ K Q e ρ l r)):cg k (GQ K Q e ρ l r):=h
theorem Dg (h:cg k (G P K Q x ρ l r)):cg k (G P K Q x ρ l r):=h
theorem Dn (h:cg k (GL P K Q L [] ρ l r)):cg k (GL P K Q L [] ρ l r):=h
theorem Dc (h:cg k (GL P K Q L (o::rest) ρ l r)):cg k (GL P K Q L (o::rest) ρ l r):=h
theorem Dp (h:cg k (GP P K Q L os ρ l r)):cg k (GP P K Q L os ρ l r):=h
theorem Dt (h:cg k (GT P K Q L pl ρ l r)):cg k (GT P K Q L pl ρ l r):=h
variable {D:Option Tmp} {ty bY T t s f n m b q i j a:Nat} {y z:Operand} {A:String} {B:Array Edge} {C:Option (Nat × Bool)} {v:Value} {cs gU:List Value} {sh:Option (TypeId × Nat)}
theorem Lfa (hx:ev ρ y=some (.pointer (some ⟨b,q,none⟩))) (hP:fieldOff Tryz.prog s f=some n) (hs:advY L K.n ⟨D,.fieldAddr s y f,T,A,B,C⟩ (.pointer (some ⟨b,q+n,none⟩)) rest ρ=some (cI,ρ')):cg (GL Tryz.prog K Q L cI ρ' l r) (GL Tryz.prog K Q L (⟨D,.fieldAddr s y f,T,A,B,C⟩::rest) ρ l r):=Yyn (Ofa hx hP) hs
theorem Lld (h:n3 Tryz.prog ρ l r ⟨D,.load t y,T,A,B,C⟩ v) (hs:advY L K.n ⟨D,.load t y,T,A,B,C⟩ v rest ρ=some (cI,ρ')):cg (GL Tryz.prog K Q L cI ρ' l r) (GL Tryz.prog K Q L (⟨D,.load t y,T,A,B,C⟩::rest) ρ l r):=Yrn h hs
theorem Lso {X:aB} {Y:List au} (h:kC Tryz.prog K ρ l r ⟨D,.store t y z,T,A,B,C⟩ (fun ρ' l'=>ρ'=X∧l'=Y)) (hw:want L ρ ⟨D,.store t y z,T,A,B,C⟩=some true) (hs:adv L K.n rest X=some (cI,ρ')):cg (GL Tryz.prog K Q L cI ρ' Y r) (GL Tryz.prog K Q L (⟨D,.store t y z,T,A,B,C⟩::rest) ρ l r):=Ysn h hw hs
end
theorem S1 {k g:Prop} (h:cg k g:=by first|((with_reducible apply Dc);first|((with_reducible apply Lfa);exact rfl;exact Tfo;exact rfl)|((with_reducible apply Lld);exact Wr;exact rfl)|((with_reducible apply Lso);exact We;exact rfl;exact rfl)|((with_reducible apply Yyn);exact Wy;exact rfl)|exact cg.of Ya)|((with_reducible apply Dq);first|((with_reducible apply Itn))|((with_reducible apply Ite))|((with_reducible apply Ibn))|((with_reducible apply Ibe))|((with_reducible apply Gbo);exact rfl))|((with_reducible apply Dn);first|((with_reducible apply Y3n);exact rfl)|((with_reducible apply Y2n);exact rfl)|((with_reducible apply Iz4))|((with_reducible apply Y1n);exact rfl)|((with_reducible apply Izn))|((with_reducible apply Iln)))|((with_reducible apply Dg);first|((with_reducible apply Y6n);exact rfl)|((with_reducible apply Y5n);exact rfl)|((with_reducible apply YGn);exact rfl)|((with_reducible apply Isq))|((with_reducible apply Ibl))|((with_reducible apply Y8n);exact rfl)|((with_reducible apply Iz7))|((with_reducible apply Isk))|((with_reducible apply Irt))|((with_reducible apply Iex))|((with_reducible apply Gct);exact rfl)|((with_reducible apply Gcf);exact rfl)|((with_reducible apply Gdt);exact rfl;decide)|((with_reducible apply Gdf);exact rfl;decide))|((with_reducible apply Dp);first|((with_reducible apply aun);exact rfl;exact Wy;exact rfl)|((with_reducible apply auo);exact rfl;exact Wr;exact rfl)|((with_reducible apply aup);exact rfl;exact We;exact rfl;exact rfl)|((with_reducible apply Ipn))|exact cg.of w6)|((with_reducible apply Dt);first|((with_reducible apply auq);exact rfl;exact Wy;exact rfl)|((with_reducible apply aur);exact rfl;exact Wr;exact rfl)|((with_reducible apply aus);exact rfl;exact We;exact rfl;exact rfl)|((with_reducible apply aut);exact rfl;exact Wr;exact rfl)|((with_reducible apply Ign))|exact cg.of Yta)):cg k g:=h
theorem S2 {k g:Prop} (h:cg k g:=by exact cg.trans S1 S1):cg k g:=h
theorem S3 {k g:Prop} (h:cg k g:=by exact cg.trans S1 S2):cg k g:=h
theorem S4 {k g:Prop} (h:cg k g:=by exact cg.trans S2 S2):cg k g:=h
theorem S5 {k g:Prop} (h:cg k g:=by exact cg.trans S2 S3):cg k g:=h
theorem S6 {k g:Prop} (h:cg k g:=by exact cg.trans S3 S3):cg k g:=h
theorem S7 {k g:Prop} (h:cg k g:=by exact cg.trans S3 S4):cg k g:=h
theorem S8 {k g:Prop} (h:cg k g:=by exact cg.trans S4 S4):cg k g:=h
theorem S9 {k g:Prop} (h:cg k g:=by exact cg.trans S4 S5):cg k g:=h
theorem S10 {k g:Prop} (h:cg k g:=by exact cg.trans S5 S5):cg k g:=h
theorem S11 {k g:Prop} (h:cg k g:=by exact cg.trans S5 S6):cg k g:=h
theorem S12 {k g:Prop} (h:cg k g:=by exact cg.trans S6 S6):cg k g:=h
theorem S13 {k g:Prop} (h:cg k g:=by exact cg.trans S6 S7):cg k g:=h
theorem S14 {k g:Prop} (h:cg k g:=by exact cg.trans S7 S7):cg k g:=h
theorem S15 {k g:Prop} (h:cg k g:=by exact cg.trans S7 S8):cg k g:=h
theorem S16 {k g:Prop} (h:cg k g:=by exact cg.trans S8 S8):cg k g:=h
theorem S17 {k g:Prop} (h:cg k g:=by exact cg.trans S8 S9):cg k g:=h
theorem S18 {k g:Prop} (h:cg k g:=by exact cg.trans S9 S9):cg k g:=h
theorem S19 {k g:Prop} (h:cg k g:=by exact cg.trans S9 S10):cg k g:=h
theorem S20 {k g:Prop} (h:cg k g:=by exact cg.trans S10 S10):cg k g:=h
theorem S21 {k g:Prop} (h:cg k g:=by exact cg.trans S10 S11):cg k g:=h
theorem S23 {k g:Prop} (h:cg k g:=by exact cg.trans S11 S12):cg k g:=h
theorem S24 {k g:Prop} (h:cg k g:=by exact cg.trans S12 S12):cg k g:=h
theorem S26 {k g:Prop} (h:cg k g:=by exact cg.trans S13 S13):cg k g:=h
theorem S27 {k g:Prop} (h:cg k g:=by exact cg.trans S13 S14):cg k g:=h
theorem S28 {k g:Prop} (h:cg k g:=by exact cg.trans S14 S14):cg k g:=h
theorem S31 {k g:Prop} (h:cg k g:=by exact cg.trans S15 S16):cg k g:=h
theorem S32 {k g:Prop} (h:cg k g:=by exact cg.trans S16 S16):cg k g:=h
theorem S33 {k g:Prop} (h:cg k g:=by exact cg.trans S16 S17):cg k g:=h
theorem S34 {k g:Prop} (h:cg k g:=by exact cg.trans S17 S17):cg k g:=h
theorem S35 {k g:Prop} (h:cg k g:=by exact cg.trans S17 S18):cg k g:=h
theorem A1 {g k:Prop} (k':k) (h:cg k g:=by exact S1):g:=h k'
theorem A2 {g k:Prop} (k':k) (h:cg k g:=by exact S2):g:=h k'
theorem A3 {g k:Prop} (k':k) (h:cg k g:=by exact S3):g:=h k'
theorem A4 {g k:Prop} (k':k) (h:cg k g:=by exact S4):g:=h k'
theorem A5 {g k:Prop} (k':k) (h:cg k g:=by exact S5):g:=h k'
theorem A6 {g k:Prop} (k':k) (h:cg k g:=by exact S6):g:=h k'
theorem A7 {g k:Prop} (k':k) (h:cg k g:=by exact S7):g:=h k'
theorem A8 {g k:Prop} (k':k) (h:cg k g:=by exact S8):g:=h k'
theorem A9 {g k:Prop} (k':k) (h:cg k g:=by exact S9):g:=h k'
theorem Cm {g k:Prop} (k':k) (h:cg k g:=by exact S10):g:=h k'
theorem vu {g k:Prop} (k':k) (h:cg k g:=by exact S11):g:=h k'
theorem EK {g k:Prop} (k':k) (h:cg k g:=by exact S12):g:=h k'
theorem A13 {g k:Prop} (k':k) (h:cg k g:=by exact S13):g:=h k'
theorem LY {g k:Prop} (k':k) (h:cg k g:=by exact S14):g:=h k'
theorem KB {g k:Prop} (k':k) (h:cg k g:=by exact S15):g:=h k'
theorem X0 {g k:Prop} (k':k) (h:cg k g:=by exact S16):g:=h k'
theorem A17 {g k:Prop} (k':k) (h:cg k g:=by exact S17):g:=h k'
theorem A18 {g k:Prop} (k':k) (h:cg k g:=by exact S18):g:=h k'
theorem A19 {g k:Prop} (k':k) (h:cg k g:=by exact S19):g:=h k'
theorem A20 {g k:Prop} (k':k) (h:cg k g:=by exact S20):g:=h k'
theorem A21 {g k:Prop} (k':k) (h:cg k g:=by exact S21):g:=h k'
theorem A23 {g k:Prop} (k':k) (h:cg k g:=by exact S23):g:=h k'
theorem A24 {g k:Prop} (k':k) (h:cg k g:=by exact S24):g:=h k'
theorem A26 {g k:Prop} (k':k) (h:cg k g:=by exact S26):g:=h k'
theorem A27 {g k:Prop} (k':k) (h:cg k g:=by exact S27):g:=h k'
theorem A28 {g k:Prop} (k':k) (h:cg k g:=by exact S28):g:=h k'
theorem A31 {g k:Prop} (k':k) (h:cg k g:=by exact S31):g:=h k'
theorem A33 {g k:Prop} (k':k) (h:cg k g:=by exact S33):g:=h k'
theorem X1 {g k:Prop} (k':k) (h:cg k g:=by exact S34):g:=h k'
theorem A35 {g k:Prop} (k':k) (h:cg k g:=by exact S35):g:=h k'
end Go.Proofs.YtekcchgffhphbaaGreatDoor
namespace Go.Proofs.YtekcchgffhphbaaGreatDoor
open Go Tryz
theorem Qt:fieldOff0 prog 71 21 71=some 279:=Kr
end Go.Proofs.YtekcchgffhphbaaGreatDoor
