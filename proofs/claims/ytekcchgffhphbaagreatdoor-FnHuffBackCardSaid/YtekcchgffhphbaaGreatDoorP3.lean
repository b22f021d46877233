/- Closed facts on the program's types, and short names for the walk's steps. -/
import Derived.Test.YtekcchgffhphbaaGreatDoorProg
import Derived.Test.YtekcchgffhphbaaGreatDoorP1
set_option maxRecDepth 100000
set_option linter.unusedVariables false
set_option linter.unusedSimpArgs false
namespace Go.Proofs.YtekcchgffhphbaaGreatDoor
open Tryz
theorem mo:prog.follows .mixedOrders=true:=Kr
theorem Pk:e8 prog 100=some (58,[.int .u16 ((0:Nat):Int)],1,2):=Kr
theorem acD:e8 prog 101=some (205,[.int .i32 ((0:Nat):Int),.int .u32 ((0:Nat):Int)],2,8):=Kr
theorem acE:e8 prog 104=some (165,[.int .u16 ((0:Nat):Int),.int .u8 ((0:Nat):Int),.int .u8 ((0:Nat):Int)],3,4):=Kr
theorem aB:e8 prog 22=some (5,[.int .u8 ((0:Nat):Int)],1,1):=Kr
theorem ZC:e8 prog 59=some (112,[.int .u16 ((0:Nat):Int),.int .u8 ((0:Nat):Int)],2,4):=Kr
theorem ajW:e8 prog 61=some (114,[.int .u16 ((0:Nat):Int)],1,2):=Kr
theorem ZD:e8 prog 64=some (174,[.int .u64 ((0:Nat):Int)],1,8):=Kr
theorem Pm:jX prog 106=some [(0,256),(256,256),(512,2),(514,4),(518,3),(521,3),(524,1),(525,1),(526,1),(527,1),(528,1),(529,1),(530,1),(531,1),(532,1),(533,1)]:=Kr
theorem Pn:jX prog 112=some [(0,1),(1,1)]:=Kr
theorem acF:jX prog 114=some [(0,1)]:=Kr
theorem acG:jX prog 118=some [(0,1),(1,1),(2,1)]:=Kr
theorem acH:jX prog 138=some [(0,1)]:=Kr
theorem acI:jX prog 183=some [(0,1),(1,1),(2,1)]:=Kr
theorem acJ:jX prog 186=some [(0,1),(1,1),(2,1)]:=Kr
theorem Po:jX prog 71=some [(0,256),(256,1),(257,1),(258,1),(259,1),(260,1),(261,1),(262,1),(263,1),(264,1),(265,1),(266,1),(267,1),(268,1),(269,1),(270,1),(271,1),(272,1),(273,1),(274,4),(278,1),(279,0),(279,256)]:=Kr
end Go.Proofs.YtekcchgffhphbaaGreatDoor
namespace Go.Proofs.YtekcchgffhphbaaGreatDoor
open Go
def opV (ρ:aC):Op→Option Value
  | .move x=>ev ρ x
  | .assign x=>ev ρ x
  | .nilCheck x=>match ev ρ x with
    |some (.pointer (some p))=>some (.pointer (some p))
    |_=>none
  | .extract x i=>match ev ρ x with
    |some (.tuple vs)=>vs[i]?
    |_=>none
  | .pick c x y=>match ev ρ c with
    |some (.bool true)=>ev ρ x
    |some (.bool false)=>ev ρ y
    |_=>none
  |_=>none
theorem acK {P:Program} {ρ:aC} {o:Oper} {v:Value} (h:opV ρ o.op=some v):aG P ρ o v:=by
  cases ho:o.op with
  |move x=>rw[ho] at h;exact Bd ho h
  |assign x=>rw[ho] at h;exact qO ho h
  |nilCheck x=>
    rw[ho] at h;simp only[opV] at h;split at h
    · rename_i p hp;rw[←Option.some.inj h];exact asw ho hp
    · cases h
  |extract x i=>
    rw[ho] at h;simp only[opV] at h;split at h
    · rename_i vs hv;exact asx ho hv h
    · cases h
  |pick c x y=>
    rw[ho] at h;simp only[opV] at h;split at h
    · rename_i hc;exact VK ho hc h
    · rename_i hc;exact VL ho hc h
    · cases h
  |_=>rw[ho] at h;simp[opV] at h
def dstB (L:List Oper) (ρ:aC) (n:Nat) (o:Oper):Option Nat:=match want L ρ o with
  |some true=>match o.dst with
    |some d=>bif Nat.blt d n then some d else none
    |none=>none
  |_=>none
def stepV (L:List Oper) (ρ:aC) (n:Nat) (o:Oper):Option (Nat × Value):=match o.dst with
  |some d=>match Nat.blt d n with
    |true=>match want L ρ o with
      |some true=>match opV ρ o.op with
        |some v=>some (d,v)
        |none=>none
      |some false=>some (d,undef)
      |none=>none
    |false=>none
  |none=>none
def runV (L:List Oper) (n:Nat):Nat→List Oper→aC→Option (List Oper × aC)
  |0,rest,ρ=>some (rest,ρ)
  |k+1,o::rest,ρ=>match stepV L ρ n o with
    |some p=>runV L n k rest (p::ρ)
    |none=>none
  |_+1,[],_=>none
def nthO (i:Nat) (L:List Oper):Oper:=match nth i L with
  |some o=>o
  |none=>default
def BP (L:List Oper) (ρ:aC) (n i:Nat):Option Nat:=match nth i L with
  |some o=>dstB L ρ n o
  |none=>none
def AA (L:List Oper) (ρ:aC) (n i:Nat):Option (Nat × Value):=match nth i L with
  |some o=>stepV L ρ n o
  |none=>none
def runP (L:List Oper) (n:Nat):Nat→List (Nat × Kd)→aC→Option (List (Nat × Kd) × aC)
  |0,os,ρ=>some (os,ρ)
  |k+1,(i,.y)::os,ρ=>match AA L ρ n i with
    |some p=>runP L n k os (p::ρ)
    |none=>none
  |_+1,_,_=>none
def runT (L:List Oper) (n:Nat):Nat→Pl→aC→Option (Pl × aC)
  |0,os,ρ=>some (os,ρ)
  |k+1,.st i false os,ρ=>match AA L ρ n i with
    |some p=>runT L n k os (p::ρ)
    |none=>none
  |_+1,_,_=>none
def adv (L:List Oper) (n:Nat):List Oper→aC→Option (List Oper × aC)
  |[],ρ=>some ([],ρ)
  |o::rest,ρ=>match stepV L ρ n o with
    |some p=>adv L n rest (p::ρ)
    |none=>some (o::rest,ρ)
def advY (L:List Oper) (n:Nat) (o:Oper) (v:Value) (rest:List Oper) (ρ:aC):Option (List Oper × aC):=match dstB L ρ n o with
  |some d=>adv L n rest ((d,v)::ρ)
  |none=>none
def advP (L:List Oper) (n:Nat):List (Nat × Kd)→aC→Option (List (Nat × Kd) × aC)
  |[],ρ=>some ([],ρ)
  |(i,.y)::os,ρ=>match AA L ρ n i with
    |some p=>advP L n os (p::ρ)
    |none=>some ((i,.y)::os,ρ)
  |(i,.r)::os,ρ=>some ((i,.r)::os,ρ)
  |(i,.e)::os,ρ=>some ((i,.e)::os,ρ)
def AB (L:List Oper) (n i:Nat) (v:Value) (os:List (Nat × Kd)) (ρ:aC):Option (List (Nat × Kd) × aC):=match BP L ρ n i with
  |some d=>advP L n os ((d,v)::ρ)
  |none=>none
def advT (L:List Oper) (n:Nat):Pl→aC→Option (Pl × aC)
  | .st i false os,ρ=>match AA L ρ n i with
    |some p=>advT L n os (p::ρ)
    |none=>some (.st i false os,ρ)
  | .st i true os,ρ=>some (.st i true os,ρ)
  | .nil,ρ=>some (.nil,ρ)
  | .stop,ρ=>some (.stop,ρ)
  | .ef i x y,ρ=>some (.ef i x y,ρ)
  | .er i x y,ρ=>some (.er i x y,ρ)
def re (L:List Oper) (n i:Nat) (v:Value) (os:Pl) (ρ:aC):Option (Pl × aC):=match BP L ρ n i with
  |some d=>advT L n os ((d,v)::ρ)
  |none=>none
theorem lE {L:List Oper} {ρ:aC} {n d:Nat} {o:Oper} (h:dstB L ρ n o=some d):want L ρ o=some true∧o.dst=some d∧Nat.blt d n=true:=by
  unfold dstB at h;split at h
  · rename_i hw;split at h
    · rename_i d' hd;cases hb:Nat.blt d' n with
      |true=>rw[hb] at h;simp only[cond_true,Option.some.injEq] at h;subst h;exact⟨hw,hd,hb⟩
      |false=>rw[hb] at h;simp at h
    · cases h
  · cases h
theorem mH {P:Program} {L:List Oper} {ρ:aC} {n:Nat} {o:Oper} {p:Nat × Value} (h:stepV L ρ n o=some p):o.dst=some p.1∧Nat.blt p.1 n=true∧((want L ρ o=some true∧aG P ρ o p.2)∨(want L ρ o=some false∧p.2=undef)):=by
  unfold stepV at h;split at h
  · rename_i d hd;split at h
    · rename_i hb;split at h
      · rename_i hw;split at h
        · rename_i v hv;rw[←Option.some.inj h];exact⟨hd,hb,.inl ⟨hw,acK hv⟩⟩
        · cases h
      · rename_i hw;rw[←Option.some.inj h];exact⟨hd,hb,.inr ⟨hw,rfl⟩⟩
      · cases h
    · cases h
  · cases h
theorem jh {i:Nat} {L:List Oper} {o:Oper} (h:nth i L=some o):nthO i L=o:=by unfold nthO;rw[h]
theorem tT {L:List Oper} {ρ:aC} {n d i:Nat} (h:BP L ρ n i=some d):nth i L=some (nthO i L)∧dstB L ρ n (nthO i L)=some d:=by
  unfold BP at h;split at h
  · rename_i o ho;rw[jh ho];exact⟨ho,h⟩
  · cases h
theorem tU {L:List Oper} {ρ:aC} {n i:Nat} {p:Nat × Value} (h:AA L ρ n i=some p):nth i L=some (nthO i L)∧stepV L ρ n (nthO i L)=some p:=by
  unfold AA at h;split at h
  · rename_i o ho;rw[jh ho];exact⟨ho,h⟩
  · cases h
theorem Sub.ofMap {ρ:aC}:∀{ρ':aC},ρ'.map (fun p=>look p.1 ρ)=ρ'.map (fun p=>some p.2)→Sub ρ' ρ
  |[],_=>trivial
  |p::q,h=>by
    rw[List.map_cons,List.map_cons] at h;exact⟨(List.cons.inj h).1,Sub.ofMap (List.cons.inj h).2⟩
section
variable {P:Program} {K:Kx} {Q:Exit→Act→World→Prop} {ρ ρ':aC} {l r:List au} {L rest cE:List Oper} {o:Oper} {d i:Nat} {v:Value}
theorem Za (k:Nat) (g:GL P K Q L cE ρ' l r) (h:runV L K.n k rest ρ=some (cE,ρ'):=by exact rfl):GL P K Q L rest ρ l r:=by
  induction k generalizing rest ρ with
  |zero=>
    simp only[runV,Option.some.injEq,Prod.mk.injEq] at h;obtain⟨rfl,rfl⟩:=h;exact g
  |succ k ih=>
    cases rest with
    |nil=>simp[runV] at h
    |cons o rest=>
      simp only[runV] at h;split at h
      · rename_i p hp;obtain⟨h1,h2,h3⟩:=mH (P:=P) hp;have g':=ih h;rcases h3 with ⟨h4,h5⟩|⟨h4,h5⟩
        · exact GL.y h5 h4 h1 h2 g'
        · refine GL.skip h4 h1 h2 ?_;rw[←h5];exact g'
      · cases h
theorem Zr (h:nN P ρ l r o v) (g:GL P K Q L rest ((d,v)::ρ) l r) (hs:dstB L ρ K.n o=some d:=by exact rfl):GL P K Q L (o::rest) ρ l r:=
  GL.rd h (lE hs).1 (lE hs).2.1 (lE hs).2.2 g
theorem Zy (h:aG P ρ o v) (g:GL P K Q L rest ((d,v)::ρ) l r) (hs:dstB L ρ K.n o=some d:=by exact rfl):GL P K Q L (o::rest) ρ l r:=Zr h.zf g hs
theorem Zs {X:aC} {Y:List au} (h:kB P K ρ l r o (fun ρ' l'=>ρ'=X∧l'=Y)) (g:GL P K Q L rest X Y r) (hw:want L ρ o=some true:=by exact rfl):GL P K Q L (o::rest) ρ l r:=
  GL.dj h hw fun _ _ ⟨h1,h2⟩=>by subst h1;subst h2;exact g
theorem Ze {X:Nat→aC} {Y:Nat→List au} (h:kB P K ρ l r o (fun ρ' l'=>∃b,ρ'=X b∧l'=Y b)) (g:∀b,GL P K Q L rest (X b) (Y b) r) (hw:want L ρ o=some true:=by exact rfl):GL P K Q L (o::rest) ρ l r:=
  GL.dj h hw fun _ _ ⟨b,h1,h2⟩=>by subst h1;subst h2;exact g b
theorem Ya (g:GL P K Q L cE ρ' l r) (h:adv L K.n rest ρ=some (cE,ρ'):=by exact rfl):GL P K Q L rest ρ l r:=by
  induction rest generalizing ρ with
  |nil=>simp only[adv,Option.some.injEq,Prod.mk.injEq] at h;obtain⟨rfl,rfl⟩:=h;exact g
  |cons o rest ih=>
    simp only[adv] at h;split at h
    · rename_i p hp;obtain⟨h1,h2,h3⟩:=mH (P:=P) hp;have g':=ih h;rcases h3 with ⟨h4,h5⟩|⟨h4,h5⟩
      · exact GL.y h5 h4 h1 h2 g'
      · refine GL.skip h4 h1 h2 ?_;rw[←h5];exact g'
    · simp only[Option.some.injEq,Prod.mk.injEq] at h;obtain⟨rfl,rfl⟩:=h;exact g
theorem Yr (h:nN P ρ l r o v) (g:GL P K Q L cE ρ' l r) (hs:advY L K.n o v rest ρ=some (cE,ρ'):=by exact rfl):GL P K Q L (o::rest) ρ l r:=by
  unfold advY at hs;split at hs
  · rename_i d hd;exact Zr h (Ya g hs) hd
  · cases hs
theorem Yy (h:aG P ρ o v) (g:GL P K Q L cE ρ' l r) (hs:advY L K.n o v rest ρ=some (cE,ρ'):=by exact rfl):GL P K Q L (o::rest) ρ l r:=Yr h.zf g hs
theorem Ys {X:aC} {Y:List au} (h:kB P K ρ l r o (fun ρ' l'=>ρ'=X∧l'=Y)) (g:GL P K Q L cE ρ' Y r) (hw:want L ρ o=some true:=by exact rfl) (hs:adv L K.n rest X=some (cE,ρ'):=by exact rfl):GL P K Q L (o::rest) ρ l r:=Zs h (Ya g hs) hw
variable {os Ed:List (Nat × Kd)}
theorem Zpa (k:Nat) (g:GP P K Q L Ed ρ' l r) (h:runP L K.n k os ρ=some (Ed,ρ'):=by exact rfl):GP P K Q L os ρ l r:=by
  induction k generalizing os ρ with
  |zero=>
    simp only[runP,Option.some.injEq,Prod.mk.injEq] at h;obtain⟨rfl,rfl⟩:=h;exact g
  |succ k ih=>
    match os,h with
    |(i,.y)::os,h=>
      simp only[runP] at h;split at h
      · rename_i p hp;obtain⟨h0,VJ⟩:=tU hp;obtain⟨h1,h2,h3⟩:=mH (P:=P) VJ;have g':=ih h;rcases h3 with ⟨h4,h5⟩|⟨h4,h5⟩
        · exact GP.y h5 h0 h4 h1 h2 g'
        · refine GP.skip h0 h4 h1 h2 ?_;rw[←h5];exact g'
      · cases h
    |[],h=>simp[runP] at h
    |(i,.r)::os,h=>simp[runP] at h
    |(i,.e)::os,h=>simp[runP] at h
theorem Zpy (h:aG P ρ (nthO i L) v) (g:GP P K Q L os ((d,v)::ρ) l r) (hs:BP L ρ K.n i=some d:=by exact rfl):GP P K Q L ((i,.y)::os) ρ l r:=by
  obtain⟨h0,h1⟩:=tT hs;obtain⟨h2,h3,h4⟩:=lE h1;exact GP.y h h0 h2 h3 h4 g
theorem Zpr (h:nN P ρ l r (nthO i L) v) (g:GP P K Q L os ((d,v)::ρ) l r) (hs:BP L ρ K.n i=some d:=by exact rfl):GP P K Q L ((i,.r)::os) ρ l r:=by
  obtain⟨h0,h1⟩:=tT hs;obtain⟨h2,h3,h4⟩:=lE h1;exact GP.rd h h0 h2 h3 h4 g
theorem wN (g:GP P K Q L Ed ρ' l r) (h:advP L K.n os ρ=some (Ed,ρ'):=by exact rfl):GP P K Q L os ρ l r:=by
  induction os generalizing ρ with
  |nil=>simp only[advP,Option.some.injEq,Prod.mk.injEq] at h;obtain⟨rfl,rfl⟩:=h;exact g
  |cons o os ih=>
    obtain⟨i,k⟩:=o;cases k with
    |y=>
      simp only[advP] at h;split at h
      · rename_i p hp;obtain⟨h0,VJ⟩:=tU hp;obtain⟨h1,h2,h3⟩:=mH (P:=P) VJ;have g':=ih h;rcases h3 with ⟨h4,h5⟩|⟨h4,h5⟩
        · exact GP.y h5 h0 h4 h1 h2 g'
        · refine GP.skip h0 h4 h1 h2 ?_;rw[←h5];exact g'
      · simp only[Option.some.injEq,Prod.mk.injEq] at h;obtain⟨rfl,rfl⟩:=h;exact g
    |r=>simp only[advP,Option.some.injEq,Prod.mk.injEq] at h;obtain⟨rfl,rfl⟩:=h;exact g
    |e=>simp only[advP,Option.some.injEq,Prod.mk.injEq] at h;obtain⟨rfl,rfl⟩:=h;exact g
theorem aN (h:aG P ρ (nthO i L) v) (g:GP P K Q L Ed ρ' l r) (hs:AB L K.n i v os ρ=some (Ed,ρ'):=by exact rfl):GP P K Q L ((i,.y)::os) ρ l r:=by
  unfold AB at hs;split at hs
  · rename_i d hd;exact Zpy h (wN g hs) hd
  · cases hs
theorem j8 (h:nN P ρ l r (nthO i L) v) (g:GP P K Q L Ed ρ' l r) (hs:AB L K.n i v os ρ=some (Ed,ρ'):=by exact rfl):GP P K Q L ((i,.r)::os) ρ l r:=by
  unfold AB at hs;split at hs
  · rename_i d hd;exact Zpr h (wN g hs) hd
  · cases hs
def pk (L:List Oper) (ρ:aC) (i:Nat):Option Bool:=match nth i L with
  |some o=>want L ρ o
  |none=>none
theorem mI {L:List Oper} {ρ:aC} {i:Nat} {b:Bool} (h:pk L ρ i=some b):nth i L=some (nthO i L)∧want L ρ (nthO i L)=some b:=by
  unfold pk at h;split at h
  · rename_i o ho;rw[jh ho];exact⟨ho,h⟩
  · cases h
theorem y7 {X:aC} {Y:List au} (h:kB P K ρ l r (nthO i L) (fun ρ' l'=>ρ'=X∧l'=Y)) (g:GP P K Q L os X Y r) (hw:pk L ρ i=some true:=by exact rfl):GP P K Q L ((i,.e)::os) ρ l r:=
  GP.dj h (mI hw).1 (mI hw).2 fun _ _ ⟨h1,h2⟩=>by subst h1;subst h2;exact g
theorem Zpe {X:Nat→aC} {Y:Nat→List au} (h:kB P K ρ l r (nthO i L) (fun ρ' l'=>∃b,ρ'=X b∧l'=Y b)) (g:∀b,GP P K Q L os (X b) (Y b) r) (hw:pk L ρ i=some true:=by exact rfl):GP P K Q L ((i,.e)::os) ρ l r:=
  GP.dj h (mI hw).1 (mI hw).2 fun _ _ ⟨b,h1,h2⟩=>by subst h1;subst h2;exact g b
theorem Yps {X:aC} {Y:List au} (h:kB P K ρ l r (nthO i L) (fun ρ' l'=>ρ'=X∧l'=Y)) (g:GP P K Q L Ed ρ' Y r) (hw:pk L ρ i=some true:=by exact rfl) (hs:advP L K.n os X=some (Ed,ρ'):=by exact rfl):GP P K Q L ((i,.e)::os) ρ l r:=y7 h (wN g hs) hw
variable {pl wm alt:Pl}
theorem Zta (k:Nat) (g:GT P K Q L wm ρ' l r) (h:runT L K.n k pl ρ=some (wm,ρ'):=by exact rfl):GT P K Q L pl ρ l r:=by
  induction k generalizing pl ρ with
  |zero=>
    simp only[runT,Option.some.injEq,Prod.mk.injEq] at h;obtain⟨rfl,rfl⟩:=h;exact g
  |succ k ih=>
    match pl,h with
    | .st i false os,h=>
      simp only[runT] at h;split at h
      · rename_i p hp;obtain⟨h0,VJ⟩:=tU hp;obtain⟨h1,h2,h3⟩:=mH (P:=P) VJ;have g':=ih h;rcases h3 with ⟨h4,h5⟩|⟨h4,h5⟩
        · exact GT.y h5 h0 h4 h1 h2 g'
        · refine GT.skip h0 h4 h1 h2 ?_;rw[←h5];exact g'
      · cases h
    | .st i true os,h=>simp[runT] at h
    | .nil,h=>simp[runT] at h
    | .stop,h=>simp[runT] at h
    | .ef i a b,h=>simp[runT] at h
theorem ZE (h:aG P ρ (nthO i L) v) (g:GT P K Q L pl ((d,v)::ρ) l r) (hs:BP L ρ K.n i=some d:=by exact rfl):GT P K Q L (.st i false pl) ρ l r:=by
  obtain⟨h0,h1⟩:=tT hs;obtain⟨h2,h3,h4⟩:=lE h1;exact GT.y h h0 h2 h3 h4 g
theorem Ztr (h:nN P ρ l r (nthO i L) v) (g:GT P K Q L pl ((d,v)::ρ) l r) (hs:BP L ρ K.n i=some d:=by exact rfl):GT P K Q L (.st i true pl) ρ l r:=by
  obtain⟨h0,h1⟩:=tT hs;obtain⟨h2,h3,h4⟩:=lE h1;exact GT.rd h h0 h2 h3 h4 g
theorem Yta (g:GT P K Q L wm ρ' l r) (h:advT L K.n pl ρ=some (wm,ρ'):=by exact rfl):GT P K Q L pl ρ l r:=by
  induction pl generalizing ρ with
  |st i k os ih=>
    cases k with
    |false=>
      simp only[advT] at h;split at h
      · rename_i p hp;obtain⟨h0,VJ⟩:=tU hp;obtain⟨h1,h2,h3⟩:=mH (P:=P) VJ;have g':=ih h;rcases h3 with ⟨h4,h5⟩|⟨h4,h5⟩
        · exact GT.y h5 h0 h4 h1 h2 g'
        · refine GT.skip h0 h4 h1 h2 ?_;rw[←h5];exact g'
      · simp only[Option.some.injEq,Prod.mk.injEq] at h;obtain⟨rfl,rfl⟩:=h;exact g
    |true=>simp only[advT,Option.some.injEq,Prod.mk.injEq] at h;obtain⟨rfl,rfl⟩:=h;exact g
  |_=>simp only[advT,Option.some.injEq,Prod.mk.injEq] at h;obtain⟨rfl,rfl⟩:=h;exact g
theorem wO (h:aG P ρ (nthO i L) v) (g:GT P K Q L wm ρ' l r) (hs:re L K.n i v pl ρ=some (wm,ρ'):=by exact rfl):GT P K Q L (.st i false pl) ρ l r:=by
  unfold re at hs;split at hs
  · rename_i d hd;exact ZE h (Yta g hs) hd
  · cases hs
theorem vd (h:nN P ρ l r (nthO i L) v) (g:GT P K Q L wm ρ' l r) (hs:re L K.n i v pl ρ=some (wm,ρ'):=by exact rfl):GT P K Q L (.st i true pl) ρ l r:=by
  unfold re at hs;split at hs
  · rename_i d hd;exact Ztr h (Yta g hs) hd
  · cases hs
theorem Ztx (h:nN P ρ l r (nthO i L) v) (g:GT P K Q L pl ((d,v)::ρ) l r) (a:GT P K Q L alt ρ l r) (hs:BP L ρ K.n i=some d:=by exact rfl):GT P K Q L (.ef i pl alt) ρ l r:=by
  obtain⟨h0,h1⟩:=tT hs;obtain⟨h2,h3,h4⟩:=lE h1;exact GT.erd h h0 h2 h3 h4 g a
theorem Zts {X:aC} {Y:List au} (h:kB P K ρ l r (nthO i L) (fun ρ' l'=>ρ'=X∧l'=Y)) (g:GT P K Q L pl X Y r) (a:GT P K Q L alt ρ l r) (hw:pk L ρ i=some true:=by exact rfl):GT P K Q L (.ef i pl alt) ρ l r:=
  GT.dj h (mI hw).1 (mI hw).2 (fun _ _ ⟨h1,h2⟩=>by subst h1;subst h2;exact g) a
theorem Ytx (h:nN P ρ l r (nthO i L) v) (g:GT P K Q L wm ρ' l r) (a:GT P K Q L alt ρ l r) (hs:re L K.n i v pl ρ=some (wm,ρ'):=by exact rfl):GT P K Q L (.ef i pl alt) ρ l r:=by
  unfold re at hs;split at hs
  · rename_i d hd;exact Ztx h (Yta g hs) a hd
  · cases hs
theorem Yts {X:aC} {Y:List au} (h:kB P K ρ l r (nthO i L) (fun ρ' l'=>ρ'=X∧l'=Y)) (g:GT P K Q L wm ρ' Y r) (a:GT P K Q L alt ρ l r) (hw:pk L ρ i=some true:=by exact rfl) (hs:advT L K.n pl X=some (wm,ρ'):=by exact rfl):GT P K Q L (.ef i pl alt) ρ l r:=Zts h (Yta g hs) a hw
theorem Ytu (h:nN P ρ l r (nthO i L) v) (g:GT P K Q L wm ρ' l r) (hs:re L K.n i v pl ρ=some (wm,ρ'):=by exact rfl):GT P K Q L (.ef i pl .stop) ρ l r:=Ytx h g GT.stop hs
theorem AD {X:aC} {Y:List au} (h:kB P K ρ l r (nthO i L) (fun ρ' l'=>ρ'=X∧l'=Y)) (g:GT P K Q L wm ρ' Y r) (hw:pk L ρ i=some true:=by exact rfl) (hs:advT L K.n pl X=some (wm,ρ'):=by exact rfl):GT P K Q L (.ef i pl .stop) ρ l r:=Yts h g GT.stop hw hs
theorem Xtt {X:aC} {Y:List au} (h:kB P K ρ l r (nthO i L) (fun ρ' l'=>ρ'=X∧l'=Y)) (g:GT P K Q L pl X Y r) (hw:pk L ρ i=some true:=by exact rfl):GT P K Q L (.ef i pl .stop) ρ l r:=Zts h g GT.stop hw
end
section
variable {P:Program} {K:Kx} {Q:Exit→Act→World→Prop} {ρ ρ0:aC} {l r:List au} {L:List Oper} {x y z:Code} {id:Nat}
theorem Zn (h:G P K Q y ρ l r):GL P K (Exit.then (y.wp P Q) Q) L [] ρ l r:=GL.nil (GQ.aW h)
theorem Zw1 {id:Nat} {L2:List Oper} (h:GL P K Q L2 L2 ρ l r):GL P K (Exit.then ((Code.region id L2.toArray false).wp P Q) Q) L [] ρ l r:=Zn (G.region h)
theorem Zw2 {id:Nat} {L2:List Oper} (h:GL P K (Exit.then (y.wp P Q) Q) L2 L2 ρ l r):GL P K (Exit.then ((Code.seq (.region id L2.toArray false) y).wp P Q) Q) L [] ρ l r:=Zn (G.seq (G.region h))
theorem Zw3 {id:Nat} {L2:List Oper} (h:GL P K (Exit.then (y.wp P (Exit.then (z.wp P Q) Q)) (Exit.then (z.wp P Q) Q)) L2 L2 ρ l r):GL P K (Exit.then ((Code.seq (.seq (.region id L2.toArray false) y) z).wp P Q) Q) L [] ρ l r:=Zn (G.seq (G.seq (G.region h)))
theorem bM (h:G P K (Exit.then (y.wp P Q) Q) x ρ l r):GL P K (Exit.then ((Code.seq x y).wp P Q) Q) L [] ρ l r:=Zn (G.seq h)
theorem Zw5 {id:Nat} {L2:List Oper} (h:GL P K (Exit.then (y.wp P Q) Q) L2 L2 ρ l r):G P K Q (.seq (.region id L2.toArray false) y) ρ l r:=G.seq (G.region h)
theorem Zw6 {id:Nat} {L2:List Oper} (h:GL P K (Exit.then (y.wp P (Exit.then (z.wp P Q) Q)) (Exit.then (z.wp P Q) Q)) L2 L2 ρ l r):G P K Q (.seq (.seq (.region id L2.toArray false) y) z) ρ l r:=G.seq (G.seq (G.region h))
theorem gT (h:G P K Q y ρ l r):G P K (Exit.then (y.wp P Q) Q) .skip ρ l r:=G.skip (GQ.aW h)
theorem Zw8 {id:Nat} {L2:List Oper} (h:GL P K (Exit.then (y.wp P Q) Q) L2 L2 ρ l r):G P K (Exit.then ((Code.seq (.region id L2.toArray false) y).wp P Q) Q) .skip ρ l r:=gT (G.seq (G.region h))
theorem Zb {I:Nat→aC→List au→Prop} {n m:Nat} (hI:I m ρ0 l) (hm:m<n:=by omega) (hs:ρ0.map (fun p=>look p.1 ρ)=ρ0.map (fun p=>some p.2):=by exact rfl):GQ K (Exit.then (MB K I r n) Q) .normal ρ l r:=GQ.back hm hI (Sub.ofMap hs)
theorem Zm {M:aC→List au→Prop} (hM:M ρ0 l) (hs:ρ0.map (fun p=>look p.1 ρ)=ρ0.map (fun p=>some p.2):=by exact rfl):GQ K (Exit.then (fun a w=>∃ρ l,M ρ l∧At K ρ l r a w) Q) .normal ρ l r:=GQ.meet hM (Sub.ofMap hs)
theorem Zo {c:Code} (I:Nat→aC→List au→Prop) {n:Nat} (h0:I n ρ0 l) (h:∀n ρ l,I n ρ l→G P K (Exit.then (MB K I r n) Q) c ρ l r) (hs:ρ0.map (fun p=>look p.1 ρ)=ρ0.map (fun p=>some p.2):=by exact rfl):G P K Q (.loop c) ρ l r:=G.loop I h0 (Sub.ofMap hs) h
theorem Zc {c:Operand} {p:Prop} [Decidable p] (ht:p→G P K Q x ρ l r) (hf:¬p→G P K Q y ρ l r) (hc:ev ρ c=some (.bool (decide p)):=by exact rfl):G P K Q (.cond c x y) ρ l r:=G.MA hc ht hf
end
section
variable {P:Program} {K:Kx} {Q:Exit→Act→World→Prop} {ρ ρ':aC} {l r:List au} {L2 cE:List Oper} {L:List Oper} {x y z:Code} {id:Nat}
theorem YG (h:GL P K Q L2 cE ρ' l r) (hs:adv L2 K.n L2 ρ=some (cE,ρ'):=by exact rfl):G P K Q (.region id L2.toArray false) ρ l r:=G.region (Ya h hs)
theorem Y1 (h:GL P K Q L2 cE ρ' l r) (hs:adv L2 K.n L2 ρ=some (cE,ρ'):=by exact rfl):GL P K (Exit.then ((Code.region id L2.toArray false).wp P Q) Q) L [] ρ l r:=Zw1 (Ya h hs)
theorem Y2 (h:GL P K (Exit.then (y.wp P Q) Q) L2 cE ρ' l r) (hs:adv L2 K.n L2 ρ=some (cE,ρ'):=by exact rfl):GL P K (Exit.then ((Code.seq (.region id L2.toArray false) y).wp P Q) Q) L [] ρ l r:=Zw2 (Ya h hs)
theorem Y3 (h:GL P K (Exit.then (y.wp P (Exit.then (z.wp P Q) Q)) (Exit.then (z.wp P Q) Q)) L2 cE ρ' l r) (hs:adv L2 K.n L2 ρ=some (cE,ρ'):=by exact rfl):GL P K (Exit.then ((Code.seq (.seq (.region id L2.toArray false) y) z).wp P Q) Q) L [] ρ l r:=Zw3 (Ya h hs)
theorem Y5 (h:GL P K (Exit.then (y.wp P Q) Q) L2 cE ρ' l r) (hs:adv L2 K.n L2 ρ=some (cE,ρ'):=by exact rfl):G P K Q (.seq (.region id L2.toArray false) y) ρ l r:=Zw5 (Ya h hs)
theorem Y6 (h:GL P K (Exit.then (y.wp P (Exit.then (z.wp P Q) Q)) (Exit.then (z.wp P Q) Q)) L2 cE ρ' l r) (hs:adv L2 K.n L2 ρ=some (cE,ρ'):=by exact rfl):G P K Q (.seq (.seq (.region id L2.toArray false) y) z) ρ l r:=Zw6 (Ya h hs)
theorem Y8 (h:GL P K (Exit.then (y.wp P Q) Q) L2 cE ρ' l r) (hs:adv L2 K.n L2 ρ=some (cE,ρ'):=by exact rfl):G P K (Exit.then ((Code.seq (.region id L2.toArray false) y).wp P Q) Q) .skip ρ l r:=Zw8 (Ya h hs)
end
section
variable {P:Program} {ρ:aC} {o:Oper} {x y:Operand} {s f n t b q len cap sz:Nat} {l r:List au} {v:Value} {k k':IntKind} {ty bN:TypeId}
theorem Zf (hP:fieldOff P s f=some n) (ho:o.op=.fieldAddr s x f:=by exact rfl) (hx:ev ρ x=some (.pointer (some ⟨b,q,none⟩)):=by exact rfl):aG P ρ o (.pointer (some ⟨b,q+n,none⟩)):=ai0 ho hx hP
theorem tV {p:Option Addr} {a:Call} {s:Nat} (hu:P.underlying t=some (.slice s)) (ho:o.op=.call a:=by exact rfl) (hc:a.callee=.builtin .len:=by exact rfl) (hx:evs ρ a.args.toList=some [.slice p len cap]:=by exact rfl) (ht:a.argTypes= #[t]:=by exact rfl):aG P ρ o (.int .i64 ((len:Nat):Int)):=YT ho hc hx ht hu
theorem rS (m n:Nat) (ho:o.op=.binOp .lss ty x y bN:=by exact rfl) (hx:ev ρ x=some (.int k ((m:Nat):Int)):=by exact rfl) (hy:ev ρ y=some (.int k ((n:Nat):Int)):=by exact rfl):aG P ρ o (.bool (decide (((m:Nat):Int)<((n:Nat):Int)))):=FQ ho hx hy
theorem Zle (m n:Nat) (ho:o.op=.binOp .leq ty x y bN:=by exact rfl) (hx:ev ρ x=some (.int k ((m:Nat):Int)):=by exact rfl) (hy:ev ρ y=some (.int k ((n:Nat):Int)):=by exact rfl):aG P ρ o (.bool (decide (((m:Nat):Int)≤((n:Nat):Int)))):=VM ho hx hy
theorem BQ (m n:Nat) (ho:o.op=.binOp .gtr ty x y bN:=by exact rfl) (hx:ev ρ x=some (.int k ((m:Nat):Int)):=by exact rfl) (hy:ev ρ y=some (.int k ((n:Nat):Int)):=by exact rfl):aG P ρ o (.bool (decide (((n:Nat):Int)<((m:Nat):Int)))):=MF ho hx hy
theorem uA (m n:Nat) (ho:o.op=.binOp .geq ty x y bN:=by exact rfl) (hx:ev ρ x=some (.int k ((m:Nat):Int)):=by exact rfl) (hy:ev ρ y=some (.int k ((n:Nat):Int)):=by exact rfl):aG P ρ o (.bool (decide (((n:Nat):Int)≤((m:Nat):Int)))):=MG ho hx hy
theorem JX (m n:Nat) (ho:o.op=.binOp .eql ty x y bN:=by exact rfl) (hx:ev ρ x=some (.int k ((m:Nat):Int)):=by exact rfl) (hy:ev ρ y=some (.int k ((n:Nat):Int)):=by exact rfl):aG P ρ o (.bool (decide (((m:Nat):Int)=((n:Nat):Int)))):=w5 ho hx hy
theorem Ee (m n:Nat) (ho:o.op=.binOp .neq ty x y bN:=by exact rfl) (hx:ev ρ x=some (.int k ((m:Nat):Int)):=by exact rfl) (hy:ev ρ y=some (.int k ((n:Nat):Int)):=by exact rfl):aG P ρ o (.bool (decide (((m:Nat):Int)≠((n:Nat):Int)))):=asy ho hx hy
theorem Zq {A:Nat} (B:Nat) (h:aG P ρ o (.int k ((A:Nat):Int))) (e:A=B:=by omega):aG P ρ o (.int k ((B:Nat):Int)):=e▸h
theorem nE {A:Nat} (B:Nat) (h:nN P ρ l r o (.int k ((A:Nat):Int))) (e:A=B:=by omega):nN P ρ l r o (.int k ((B:Nat):Int)):=e▸h
theorem Zx (q' m:Nat) (hP:cF P t=some 1) (ho:o.op=.indexAddr t x y:=by exact rfl) (hx:ev ρ x=some (.slice (some ⟨b,q,none⟩) len cap):=by exact rfl) (hy:ev ρ y=some (.int k (m:Nat)):=by exact rfl) (h:m<len:=by omega) (hq:q+m=q':=by omega):aG P ρ o (.pointer (some ⟨b,q',none⟩)):=YL ho hx hy hP h hq
theorem tW (q' m:Nat) (hP:gP P t=some (n,sz)) (ho:o.op=.indexAddr t x y:=by exact rfl) (hx:ev ρ x=some (.pointer (some ⟨b,q,none⟩)):=by exact rfl) (hy:ev ρ y=some (.int k (m:Nat)):=by exact rfl) (h:m<n:=by omega) (hq:q+m*sz=q':=by omega):aG P ρ o (.pointer (some ⟨b,q',none⟩)):=abB ho hx hy hP h hq
theorem y8 (q' m:Nat) (hP:gP P t=some (n,1)) (ho:o.op=.indexAddr t x y:=by exact rfl) (hx:ev ρ x=some (.pointer (some ⟨b,q,none⟩)):=by exact rfl) (hy:ev ρ y=some (.int k (m:Nat)):=by exact rfl) (h:m<n:=by omega) (hq:q+m=q':=by omega):aG P ρ o (.pointer (some ⟨b,q',none⟩)):=YM ho hx hy hP h hq
theorem Zl {sg:au} (i j:Nat) (hP:l9 P t=some false) (hs:nthS i l=some sg:=by exact rfl) (ho:o.op=.load t x:=by exact rfl) (hx:ev ρ x=some (.pointer (some ⟨sg.b,q,none⟩)):=by exact rfl) (hq:q=sg.o+j:=by exact rfl) (hc:sg.cs[j]? =some v:=by exact rfl):nN P ρ l r o v:=cU i j hs ho hx hP hq hc
theorem Zk {sg:au} (i j:Nat) (hP:l9 P t=some false) (hs:nthS i r=some sg:=by exact rfl) (ho:o.op=.load t x:=by exact rfl) (hx:ev ρ x=some (.pointer (some ⟨sg.b,q,none⟩)):=by exact rfl) (hq:q=sg.o+j:=by exact rfl) (hc:sg.cs[j]? =some v:=by exact rfl):nN P ρ l r o v:=nO i j hs ho hx hP hq hc
theorem wP {sg:au} (i j:Nat) (hP:l9 P t=some false) (hs:nthS i l=some sg) (hc:sg.cs[j]? =some v) (ho:o.op=.load t x:=by exact rfl) (hx:ev ρ x=some (.pointer (some ⟨sg.b,q,none⟩)):=by exact rfl) (hq:q=sg.o+j:=by exact rfl):nN P ρ l r o v:=cU i j hs ho hx hP hq hc
theorem iO {sg:au} (i j:Nat) (hP:l9 P t=some false) (hs:nthS i r=some sg) (hc:sg.cs[j]? =some v) (ho:o.op=.load t x:=by exact rfl) (hx:ev ρ x=some (.pointer (some ⟨sg.b,q,none⟩)):=by exact rfl) (hq:q=sg.o+j:=by exact rfl):nN P ρ l r o v:=nO i j hs ho hx hP hq hc
theorem Lc {sg:au} {vs:List Value} {n:Nat} (i j:Nat) (hP:l9 P t=some true) (hz:eV P t=some n) (hs:nthS i l=some sg:=by exact rfl) (ho:o.op=.load t x:=by exact rfl) (hx:ev ρ x=some (.pointer (some ⟨sg.b,q,none⟩)):=by exact rfl) (hq:q=sg.o+j:=by exact rfl) (hv:(sg.cs.drop j).take n=vs:=by exact rfl) (hn:vs.length=n:=by exact rfl):nN P ρ l r o (.agg vs.toArray):=jI i j hs ho hx hP hz hq hv hn
end
section
variable {P:Program} {K:Kx} {ρ:aC} {l r:List au} {o:Oper} {x y:Operand} {t q n:Nat} {v:Value}
theorem gN {sg:au} (i j:Nat) (hP:eV P t=some 1) (hs:nthS i l=some sg:=by exact rfl) (ho:o.op=.store t x y:=by exact rfl) (hx:ev ρ x=some (.pointer (some ⟨sg.b,q,none⟩)):=by exact rfl) (hy:ev ρ y=some v:=by exact rfl) (hv:v.oneCell'=true:=by exact rfl) (hq:q=sg.o+j:=by exact rfl) (hj:Nat.ble (j+1) sg.cs.length=true:=by exact rfl) (hd:o.dst=none:=by exact rfl):kB P K ρ l r o (fun ρ' l'=>ρ'=ρ∧l'=setS i ⟨sg.b,sg.o,sg.cs.set j v,sg.sh⟩ l):=iP i j hs ho hx hy hP hv hq (Nat.le_of_ble_eq_true hj) hd rfl
end
theorem Ov {p:Prop} (h:p:=by first|rfl|simp[Instr.fill,Value.cells,uO,uP,uQ]):p:=h
section
variable {P:Program} {K:Kx} {ρ:aC} {l r:List au} {o:Oper} {x y:Operand} {t q n b off v d f:Nat} {k k':IntKind} {D:List Nat} {sh:Option (TypeId × Nat)}
theorem Zsu (i j:Nat) (hP:eV P t=some 1) (hs:nthS i l=some ⟨b,off,aa k D,sh⟩:=by exact rfl) (ho:o.op=.store t x y:=by exact rfl) (hx:ev ρ x=some (.pointer (some ⟨b,q,none⟩)):=by exact rfl) (hy:ev ρ y=some (.int k ((v:Nat):Int)):=by exact rfl) (hd:o.dst=none:=by exact rfl)
    (hq:q=off+j:=by first|rfl|exact(Nat.zero_add _).symm|omega) (hj:j<D.length:=by first|omega|(simp;omega)|simp):kB P K ρ l r o (fun ρ' l'=>ρ'=ρ∧l'=setS i ⟨b,off,aa k (D.set j v),sh⟩ l):=
  iP i j hs ho hx hy hP rfl hq (by rw[bQ];exact hj) hd (sU _ _ _ _)
theorem Zsa (i j:Nat) (hP:eV P t=some 1) (hs:nthS i l=some ⟨b,off,aa k D,sh⟩:=by exact rfl) (ho:o.op=.store t x y:=by exact rfl) (hx:ev ρ x=some (.pointer (some ⟨b,q,none⟩)):=by exact rfl) (hy:ev ρ y=some (.agg #[.int k ((v:Nat):Int)]):=by exact rfl) (hd:o.dst=none:=by exact rfl)
    (hq:q=off+j:=by first|rfl|exact(Nat.zero_add _).symm|omega) (hj:j<D.length:=by first|omega|(simp;omega)|simp):kB P K ρ l r o (fun ρ' l'=>ρ'=ρ∧l'=setS i ⟨b,off,aa k (D.set j v),sh⟩ l):=
  kp (vs:=[.int k ((v:Nat):Int)]) i j hs ho hx hy hP rfl rfl hq (by show j+1≤(aa k D).length;rw[bQ];exact hj) hd (by show(aa k D).set j _=_;exact sU _ _ _ _)
theorem im {sg:au} {vs:List Value} (i:Nat) (hP:eV P t=some n) (hs:nthS i l=some sg:=by exact rfl) (ho:o.op=.store t x y:=by exact rfl) (hx:ev ρ x=some (.pointer (some ⟨sg.b,q,none⟩)):=by exact rfl) (hy:ev ρ y=some (.agg vs.toArray):=by exact rfl) (hd:o.dst=none:=by exact rfl) (hq:q=sg.o:=by exact rfl)
    (hn:vs.length=n:=by exact rfl) (hv:(vs.all fun u=>u.oneCell')=true:=by exact rfl) (hj:Nat.ble n sg.cs.length=true:=by exact rfl) (hc:spl sg.cs 0 vs=vs:=by exact rfl):kB P K ρ l r o (fun ρ' l'=>ρ'=ρ∧l'=setS i ⟨sg.b,sg.o,vs,sg.sh⟩ l):=
  kp i 0 hs ho hx hy hP hn hv hq (by rw[Nat.zero_add];exact Nat.le_of_ble_eq_true hj) hd hc
theorem iD {cs:List Value} (hz:vv P t=some cs) (ho:o.op=.alloc t:=by exact rfl) (hd:o.dst=some d:=by exact rfl) (hn:Nat.blt d K.n=true:=by exact rfl):
    kB P K ρ l r o (fun ρ' l'=>∃b,ρ'=(d,.pointer (some ⟨b,0,none⟩))::ρ∧l'=⟨b,0,cs,none⟩::l):=asA ho hz hd hn
def callW (L:List Oper) (o:Oper) (n:Nat) (ρ:aC) (l r:List au) (is rs:List Nat):Option (Nat × FuncId × List Value × List au × List au × List au):=match want L ρ o with
  |some true=>match o.op with
    | .call c=>match c.callee with
      | .value (.func f)=>match evs ρ c.args.toList with
        |some args=>match pickS is l with
          |some (lc,rest)=>match pickR rs (rest++r) with
            |some rc=>match o.dst with
              |some d=>match Nat.blt d n with
                |true=>some (d,f,args,lc,rest,rc)
                |false=>none
              |none=>none
            |none=>none
          |none=>none
        |none=>none
      |_=>none
    |_=>none
  |_=>none
def AE (L:List Oper) (i n:Nat) (ρ:aC) (l r:List au) (is rs:List Nat):Option (Nat × FuncId × List Value × List au × List au × List au):=match nth i L with
  |some o=>callW L o n ρ l r is rs
  |none=>none
theorem mJ {f:FuncId} {L:List Oper} {is rs:List Nat} {args:List Value} {lc rest rc:List au} {dx:Value→List au→Prop} (h:callW L o K.n ρ l r is rs=some (d,f,args,lc,rest,rc)) (uF:aI P f args lc rc dx):
    want L ρ o=some true∧kB P K ρ l r o (fun ρ' l'=>∃v wb,dx v wb∧ρ'=(d,v)::ρ∧l'=wb++rest):=by
  unfold callW at h;repeat' split at h
  all_goals first
    |(cases h;exact⟨Oa,kT is rs uF Oa Oa Oa Oa Oa Oa Oa⟩)
    |cases h
theorem mK {L:List Oper} {i:Nat} {is rs:List Nat} {z:Nat × FuncId × List Value × List au × List au × List au} (h:AE L i n ρ l r is rs=some z):nth i L=some (nthO i L)∧callW L (nthO i L) n ρ l r is rs=some z:=by
  unfold AE at h;split at h
  · rename_i o ho;rw[jh ho];exact⟨ho,h⟩
  · cases h
variable {Q:Exit→Act→World→Prop} {L rest:List Oper} {fi:FuncId} {args:List Value} {lc l2 rc l1:List au} {u:Value} {dx:Value→List au→Prop} {i:Nat} {os:List (Nat × Kd)} {pl alt:Pl}
theorem cH (is rs:List Nat) (uF:aI P fi args lc rc dx) (hc:callW L o K.n ρ l r is rs=some (d,fi,args,lc,l2,rc)) (g:∀v l1,dx v l1→GL P K Q L rest ((d,v)::ρ) (l1++l2) r):GL P K Q L (o::rest) ρ l r:=
  GL.dj (mJ hc uF).2 (mJ hc uF).1 fun _ _ ⟨v,l1,h,h1,h2⟩=>by subst h1;subst h2;exact g v l1 h
theorem cg (is rs:List Nat) (uF:aI P fi args lc rc (fun v l'=>v=u∧l'=l1)) (hc:callW L o K.n ρ l r is rs=some (d,fi,args,lc,l2,rc)) (g:GL P K Q L rest ((d,u)::ρ) (l1++l2) r):GL P K Q L (o::rest) ρ l r:=
  cH is rs uF hc fun _ _ ⟨h1,h2⟩=>by subst h1;subst h2;exact g
theorem acL (is rs:List Nat) (uF:aI P fi args lc rc dx) (hc:AE L i K.n ρ l r is rs=some (d,fi,args,lc,l2,rc)) (g:∀v l1,dx v l1→GP P K Q L os ((d,v)::ρ) (l1++l2) r):GP P K Q L ((i,.e)::os) ρ l r:=
  GP.dj (mJ (mK hc).2 uF).2 (mK hc).1 (mJ (mK hc).2 uF).1 fun _ _ ⟨v,l1,h,h1,h2⟩=>by subst h1;subst h2;exact g v l1 h
theorem et (is rs:List Nat) (uF:aI P fi args lc rc (fun v l'=>v=u∧l'=l1)) (hc:AE L i K.n ρ l r is rs=some (d,fi,args,lc,l2,rc)) (g:GP P K Q L os ((d,u)::ρ) (l1++l2) r):GP P K Q L ((i,.e)::os) ρ l r:=
  acL is rs uF hc fun _ _ ⟨h1,h2⟩=>by subst h1;subst h2;exact g
theorem iE (is rs:List Nat) (uF:aI P fi args lc rc dx) (hc:AE L i K.n ρ l r is rs=some (d,fi,args,lc,l2,rc)) (g:∀v l1,dx v l1→GT P K Q L pl ((d,v)::ρ) (l1++l2) r) (a:GT P K Q L alt ρ l r):GT P K Q L (.ef i pl alt) ρ l r:=
  GT.dj (mJ (mK hc).2 uF).2 (mK hc).1 (mJ (mK hc).2 uF).1 (fun _ _ ⟨v,l1,h,h1,h2⟩=>by subst h1;subst h2;exact g v l1 h) a
theorem fx (is rs:List Nat) (uF:aI P fi args lc rc (fun v l'=>v=u∧l'=l1)) (hc:AE L i K.n ρ l r is rs=some (d,fi,args,lc,l2,rc)) (g:GT P K Q L pl ((d,u)::ρ) (l1++l2) r) (a:GT P K Q L alt ρ l r):GT P K Q L (.ef i pl alt) ρ l r:=
  iE is rs uF hc (fun _ _ ⟨h1,h2⟩=>by subst h1;subst h2;exact g) a
theorem Zi {fn:Func} {c:Code} (hf:P.funcs[fi]? =some fn) (hb:fn.body=some c) (h:∀w0,G P ⟨fn.ntmps,l,w0⟩ (bodyPost P fn (Ends dx l r w0)) c (frArgs 0 args) l r) (Nr:(fn.name== "runtime.NumGoroutine")=false:=by kernel_rfl) (hn:Nat.ble args.length fn.ntmps=true:=by exact rfl):aI P fi args l r dx:=
  aI.intro hf hb Nr (Nat.le_of_ble_eq_true hn) h
theorem ZR {X:Act→World→Prop} (h:GQ K Q .ret ρ l r):GQ K (Exit.then X Q) .ret ρ l r:=h
theorem ZB {X:Nat} (h:GQ K Q .ret ρ l r):GQ K (Exit.inBlock X Q) .ret ρ l r:=h
end
abbrev YS (i:Nat) (p:Pl):Pl:=.st i false p
abbrev YE (i:Nat) (p q:Pl):Pl:=.ef i p q
abbrev YF (i:Nat) (p:Pl):Pl:=.ef i p .stop
abbrev cp:=Option (TypeId × Nat)
abbrev Va (x:Nat):Value:=.int .u8 ((x:Nat):Int)
abbrev Vb (x:Nat):Value:=.int .u16 ((x:Nat):Int)
abbrev Vc (x:Nat):Value:=.int .u32 ((x:Nat):Int)
abbrev Vd (x:Nat):Value:=.int .u64 ((x:Nat):Int)
abbrev Ve (x:Nat):Value:=.int .i8 ((x:Nat):Int)
abbrev Vf (x:Nat):Value:=.int .i16 ((x:Nat):Int)
abbrev Vg (x:Nat):Value:=.int .i32 ((x:Nat):Int)
abbrev Vh (x:Nat):Value:=.int .i64 ((x:Nat):Int)
abbrev Vn:Value:=.slice none 0 0
abbrev Vp (b o:Nat):Value:=.pointer (some ⟨b,o,none⟩)
abbrev Vs (b o n c:Nat):Value:=.slice (some ⟨b,o,none⟩) n c
section
variable {P:Program} {ρ:aC} {o:Oper} {x y:Operand} {ty bN:TypeId}
theorem gY (m n:Nat) (ho:o.op=.binOp .add ty x y bN:=by exact rfl) (hx:ev ρ x=some (.int .u8 (m:Nat)):=by exact rfl) (hy:ev ρ y=some (.int .u8 (n:Nat)):=by exact rfl) (h:m+n≤255:=by omega):aG P ρ o (.int .u8 ((m+n:Nat):Int)):=VU ho hx hy h
theorem Pp (m n:Nat) (ho:o.op=.binOp .add ty x y bN:=by exact rfl) (hx:ev ρ x=some (.int .u16 (m:Nat)):=by exact rfl) (hy:ev ρ y=some (.int .u16 (n:Nat)):=by exact rfl) (h:m+n≤65535:=by omega):aG P ρ o (.int .u16 ((m+n:Nat):Int)):=M3 ho hx hy h
theorem BS (m n:Nat) (ho:o.op=.binOp .add ty x y bN:=by exact rfl) (hx:ev ρ x=some (.int .u32 (m:Nat)):=by exact rfl) (hy:ev ρ y=some (.int .u32 (n:Nat)):=by exact rfl) (h:m+n≤4294967295:=by omega):aG P ρ o (.int .u32 ((m+n:Nat):Int)):=M9 ho hx hy h
theorem acM (m n:Nat) (ho:o.op=.binOp .add ty x y bN:=by exact rfl) (hx:ev ρ x=some (.int .u64 (m:Nat)):=by exact rfl) (hy:ev ρ y=some (.int .u64 (n:Nat)):=by exact rfl) (h:m+n≤18446744073709551615:=by omega):aG P ρ o (.int .u64 ((m+n:Nat):Int)):=Nj ho hx hy h
theorem ve (m n:Nat) (ho:o.op=.binOp .add ty x y bN:=by exact rfl) (hx:ev ρ x=some (.int .i16 (m:Nat)):=by exact rfl) (hy:ev ρ y=some (.int .i16 (n:Nat)):=by exact rfl) (h:m+n≤32767:=by omega):aG P ρ o (.int .i16 ((m+n:Nat):Int)):=MI ho hx hy h
theorem acN (m n:Nat) (ho:o.op=.binOp .add ty x y bN:=by exact rfl) (hx:ev ρ x=some (.int .i32 (m:Nat)):=by exact rfl) (hy:ev ρ y=some (.int .i32 (n:Nat)):=by exact rfl) (h:m+n≤2147483647:=by omega):aG P ρ o (.int .i32 ((m+n:Nat):Int)):=MN ho hx hy h
theorem aE (m n:Nat) (ho:o.op=.binOp .add ty x y bN:=by exact rfl) (hx:ev ρ x=some (.int .i64 (m:Nat)):=by exact rfl) (hy:ev ρ y=some (.int .i64 (n:Nat)):=by exact rfl) (h:m+n≤9223372036854775807:=by omega):aG P ρ o (.int .i64 ((m+n:Nat):Int)):=MT ho hx hy h
theorem vf (m n:Nat) (ho:o.op=.binOp .add ty x y bN:=by exact rfl) (hx:ev ρ x=some (.int .u8 (m:Nat)):=by exact rfl) (hy:ev ρ y=some (.int .u8 (n:Nat)):=by exact rfl):aG P ρ o (.int .u8 (((m+n)%256:Nat):Int)):=V2 ho hx hy
theorem fM (m n:Nat) (ho:o.op=.binOp .and ty x y bN:=by exact rfl) (hx:ev ρ x=some (.int .u8 (m:Nat)):=by exact rfl) (hy:ev ρ y=some (.int .u8 (n:Nat)):=by exact rfl) (h:m<256∨n<256:=by omega) (hm:m<256:=by omega) (hn:n<256:=by omega):aG P ρ o (.int .u8 ((m&&&n:Nat):Int)):=VX ho hx hy h hm hn
theorem aU (m n:Nat) (ho:o.op=.binOp .and ty x y bN:=by exact rfl) (hx:ev ρ x=some (.int .u16 (m:Nat)):=by exact rfl) (hy:ev ρ y=some (.int .u16 (n:Nat)):=by exact rfl) (h:m<65536∨n<65536:=by omega) (hm:m<65536:=by omega) (hn:n<65536:=by omega):aG P ρ o (.int .u16 ((m&&&n:Nat):Int)):=M5 ho hx hy h hm hn
theorem gv (m n:Nat) (ho:o.op=.binOp .and ty x y bN:=by exact rfl) (hx:ev ρ x=some (.int .u32 (m:Nat)):=by exact rfl) (hy:ev ρ y=some (.int .u32 (n:Nat)):=by exact rfl) (h:m<4294967296∨n<4294967296:=by omega) (hm:m<4294967296:=by omega) (hn:n<4294967296:=by omega):aG P ρ o (.int .u32 ((m&&&n:Nat):Int)):=Nb ho hx hy h hm hn
theorem ld (m n:Nat) (ho:o.op=.binOp .and ty x y bN:=by exact rfl) (hx:ev ρ x=some (.int .u64 (m:Nat)):=by exact rfl) (hy:ev ρ y=some (.int .u64 (n:Nat)):=by exact rfl) (h:m<18446744073709551616∨n<18446744073709551616:=by omega) (hm:m<18446744073709551616:=by omega) (hn:n<18446744073709551616:=by omega):aG P ρ o (.int .u64 ((m&&&n:Nat):Int)):=Nm ho hx hy h hm hn
theorem BT (m n:Nat) (ho:o.op=.binOp .and ty x y bN:=by exact rfl) (hx:ev ρ x=some (.int .i64 (m:Nat)):=by exact rfl) (hy:ev ρ y=some (.int .i64 (n:Nat)):=by exact rfl) (h:m<9223372036854775808∨n<9223372036854775808:=by omega) (hm:m<18446744073709551616:=by omega) (hn:n<18446744073709551616:=by omega):aG P ρ o (.int .i64 ((m&&&n:Nat):Int)):=MW ho hx hy h hm hn
theorem Ld (m n:Nat) (ho:o.op=.binOp .andNot ty x y bN:=by exact rfl) (hx:ev ρ x=some (.int .u64 (m:Nat)):=by exact rfl) (hy:ev ρ y=some (.int .u64 (n:Nat)):=by exact rfl) (hm:m<18446744073709551616:=by omega) (hn:n<18446744073709551616:=by omega):aG P ρ o (.int .u64 ((m&&&(18446744073709551615-n):Nat):Int)):=C5 ho hx hy hm hn
theorem ajX (m:Nat) {s t:TypeId} {D:TypeDesc} {k:IntKind} (hs:P.underlying s=some D) (ht:P.underlying t=some (.int .u8)) (ho:o.op=.convert s t x:=by exact rfl) (hx:ev ρ x=some (.int k (m:Nat)):=by exact rfl) (h:m≤255:=by omega):aG P ρ o (.int .u8 ((m:Nat):Int)):=abz ho hs ht hx h
theorem ZF (m:Nat) {s t:TypeId} {D:TypeDesc} {k:IntKind} (hs:P.underlying s=some D) (ht:P.underlying t=some (.int .u16)) (ho:o.op=.convert s t x:=by exact rfl) (hx:ev ρ x=some (.int k (m:Nat)):=by exact rfl) (h:m≤65535:=by omega):aG P ρ o (.int .u16 ((m:Nat):Int)):=V5 ho hs ht hx h
theorem ZG (m:Nat) {s t:TypeId} {D:TypeDesc} {k:IntKind} (hs:P.underlying s=some D) (ht:P.underlying t=some (.int .u32)) (ho:o.op=.convert s t x:=by exact rfl) (hx:ev ρ x=some (.int k (m:Nat)):=by exact rfl) (h:m≤4294967295:=by omega):aG P ρ o (.int .u32 ((m:Nat):Int)):=V7 ho hs ht hx h
theorem tX (m:Nat) {s t:TypeId} {D:TypeDesc} {k:IntKind} (hs:P.underlying s=some D) (ht:P.underlying t=some (.int .u64)) (ho:o.op=.convert s t x:=by exact rfl) (hx:ev ρ x=some (.int k (m:Nat)):=by exact rfl) (h:m≤18446744073709551615:=by omega):aG P ρ o (.int .u64 ((m:Nat):Int)):=V' ho hs ht hx h
theorem ajY (m:Nat) {s t:TypeId} {D:TypeDesc} {k:IntKind} (hs:P.underlying s=some D) (ht:P.underlying t=some (.int .i8)) (ho:o.op=.convert s t x:=by exact rfl) (hx:ev ρ x=some (.int k (m:Nat)):=by exact rfl) (h:m≤127:=by omega):aG P ρ o (.int .i8 ((m:Nat):Int)):=aby ho hs ht hx h
theorem ajZ (m:Nat) {s t:TypeId} {D:TypeDesc} {k:IntKind} (hs:P.underlying s=some D) (ht:P.underlying t=some (.int .i16)) (ho:o.op=.convert s t x:=by exact rfl) (hx:ev ρ x=some (.int k (m:Nat)):=by exact rfl) (h:m≤32767:=by omega):aG P ρ o (.int .i16 ((m:Nat):Int)):=VO ho hs ht hx h
theorem aj0 (m:Nat) {s t:TypeId} {D:TypeDesc} {k:IntKind} (hs:P.underlying s=some D) (ht:P.underlying t=some (.int .i32)) (ho:o.op=.convert s t x:=by exact rfl) (hx:ev ρ x=some (.int k (m:Nat)):=by exact rfl) (h:m≤2147483647:=by omega):aG P ρ o (.int .i32 ((m:Nat):Int)):=VQ ho hs ht hx h
theorem JY (m:Nat) {s t:TypeId} {D:TypeDesc} {k:IntKind} (hs:P.underlying s=some D) (ht:P.underlying t=some (.int .i64)) (ho:o.op=.convert s t x:=by exact rfl) (hx:ev ρ x=some (.int k (m:Nat)):=by exact rfl) (h:m≤9223372036854775807:=by omega):aG P ρ o (.int .i64 ((m:Nat):Int)):=VS ho hs ht hx h
theorem az (m:Nat) {s t:TypeId} {D:TypeDesc} {k:IntKind} (hs:P.underlying s=some D) (ht:P.underlying t=some (.int .u8)) (ho:o.op=.convert s t x:=by exact rfl) (hx:ev ρ x=some (.int k (m:Nat)):=by exact rfl):aG P ρ o (.int .u8 ((m%256:Nat):Int)):=abA ho hs ht hx
theorem aj1 (m:Nat) {s t:TypeId} {D:TypeDesc} {k:IntKind} (hs:P.underlying s=some D) (ht:P.underlying t=some (.int .u16)) (ho:o.op=.convert s t x:=by exact rfl) (hx:ev ρ x=some (.int k (m:Nat)):=by exact rfl):aG P ρ o (.int .u16 ((m%65536:Nat):Int)):=V6 ho hs ht hx
theorem aj2 (m:Nat) {s t:TypeId} {D:TypeDesc} {k:IntKind} (hs:P.underlying s=some D) (ht:P.underlying t=some (.int .u32)) (ho:o.op=.convert s t x:=by exact rfl) (hx:ev ρ x=some (.int k (m:Nat)):=by exact rfl):aG P ρ o (.int .u32 ((m%4294967296:Nat):Int)):=V8 ho hs ht hx
theorem acO (m n:Nat) (ho:o.op=.binOp .mul ty x y bN:=by exact rfl) (hx:ev ρ x=some (.int .u8 (m:Nat)):=by exact rfl) (hy:ev ρ y=some (.int .u8 (n:Nat)):=by exact rfl) (h:m*n≤255:=by omega):aG P ρ o (.int .u8 ((m*n:Nat):Int)):=VV ho hx hy h
theorem acP (m n:Nat) (ho:o.op=.binOp .mul ty x y bN:=by exact rfl) (hx:ev ρ x=some (.int .u32 (m:Nat)):=by exact rfl) (hy:ev ρ y=some (.int .u32 (n:Nat)):=by exact rfl) (h:m*n≤4294967295:=by omega):aG P ρ o (.int .u32 ((m*n:Nat):Int)):=M' ho hx hy h
theorem GH (m n:Nat) (ho:o.op=.binOp .mul ty x y bN:=by exact rfl) (hx:ev ρ x=some (.int .u64 (m:Nat)):=by exact rfl) (hy:ev ρ y=some (.int .u64 (n:Nat)):=by exact rfl) (h:m*n≤18446744073709551615:=by omega):aG P ρ o (.int .u64 ((m*n:Nat):Int)):=Nk ho hx hy h
theorem acQ (m n:Nat) (ho:o.op=.binOp .mul ty x y bN:=by exact rfl) (hx:ev ρ x=some (.int .i16 (m:Nat)):=by exact rfl) (hy:ev ρ y=some (.int .i16 (n:Nat)):=by exact rfl) (h:m*n≤32767:=by omega):aG P ρ o (.int .i16 ((m*n:Nat):Int)):=MJ ho hx hy h
theorem acR (m n:Nat) (ho:o.op=.binOp .mul ty x y bN:=by exact rfl) (hx:ev ρ x=some (.int .i32 (m:Nat)):=by exact rfl) (hy:ev ρ y=some (.int .i32 (n:Nat)):=by exact rfl) (h:m*n≤2147483647:=by omega):aG P ρ o (.int .i32 ((m*n:Nat):Int)):=MO ho hx hy h
theorem ft (m n:Nat) (ho:o.op=.binOp .mul ty x y bN:=by exact rfl) (hx:ev ρ x=some (.int .i64 (m:Nat)):=by exact rfl) (hy:ev ρ y=some (.int .i64 (n:Nat)):=by exact rfl) (h:m*n≤9223372036854775807:=by omega):aG P ρ o (.int .i64 ((m*n:Nat):Int)):=MU ho hx hy h
theorem acS (m n:Nat) (ho:o.op=.binOp .mul ty x y bN:=by exact rfl) (hx:ev ρ x=some (.int .u32 (m:Nat)):=by exact rfl) (hy:ev ρ y=some (.int .u32 (n:Nat)):=by exact rfl):aG P ρ o (.int .u32 (((m*n)%4294967296:Nat):Int)):=Ng ho hx hy
theorem Ef (m n:Nat) (ho:o.op=.binOp .or ty x y bN:=by exact rfl) (hx:ev ρ x=some (.int .u8 (m:Nat)):=by exact rfl) (hy:ev ρ y=some (.int .u8 (n:Nat)):=by exact rfl) (hm:m<256:=by omega) (hn:n<256:=by omega):aG P ρ o (.int .u8 ((m|||n:Nat):Int)):=Be ho hx hy hm hn
theorem aj3 (m n:Nat) (ho:o.op=.binOp .or ty x y bN:=by exact rfl) (hx:ev ρ x=some (.int .u16 (m:Nat)):=by exact rfl) (hy:ev ρ y=some (.int .u16 (n:Nat)):=by exact rfl) (hm:m<65536:=by omega) (hn:n<65536:=by omega):aG P ρ o (.int .u16 ((m|||n:Nat):Int)):=V4 ho hx hy hm hn
theorem JZ (m n:Nat) (ho:o.op=.binOp .or ty x y bN:=by exact rfl) (hx:ev ρ x=some (.int .u32 (m:Nat)):=by exact rfl) (hy:ev ρ y=some (.int .u32 (n:Nat)):=by exact rfl) (hm:m<4294967296:=by omega) (hn:n<4294967296:=by omega):aG P ρ o (.int .u32 ((m|||n:Nat):Int)):=du ho hx hy hm hn
theorem lF (m n:Nat) (ho:o.op=.binOp .or ty x y bN:=by exact rfl) (hx:ev ρ x=some (.int .u64 (m:Nat)):=by exact rfl) (hy:ev ρ y=some (.int .u64 (n:Nat)):=by exact rfl) (hm:m<18446744073709551616:=by omega) (hn:n<18446744073709551616:=by omega):aG P ρ o (.int .u64 ((m|||n:Nat):Int)):=mX ho hx hy hm hn
theorem tY (m n:Nat) (ho:o.op=.binOp .or ty x y bN:=by exact rfl) (hx:ev ρ x=some (.int .i64 (m:Nat)):=by exact rfl) (hy:ev ρ y=some (.int .i64 (n:Nat)):=by exact rfl) (hm:m<9223372036854775808:=by omega) (hn:n<9223372036854775808:=by omega):aG P ρ o (.int .i64 ((m|||n:Nat):Int)):=VR ho hx hy hm hn
theorem acT (m n:Nat) (ho:o.op=.binOp .quo ty x y bN:=by exact rfl) (hx:ev ρ x=some (.int .u8 (m:Nat)):=by exact rfl) (hy:ev ρ y=some (.int .u8 (n:Nat)):=by exact rfl) (h0:0<n:=by omega) (hm:m≤255:=by omega):aG P ρ o (.int .u8 ((m/n:Nat):Int)):=V1 ho hx hy h0 hm
theorem Pq (m n:Nat) (ho:o.op=.binOp .quo ty x y bN:=by exact rfl) (hx:ev ρ x=some (.int .u32 (m:Nat)):=by exact rfl) (hy:ev ρ y=some (.int .u32 (n:Nat)):=by exact rfl) (h0:0<n:=by omega) (hm:m≤4294967295:=by omega):aG P ρ o (.int .u32 ((m/n:Nat):Int)):=Nf ho hx hy h0 hm
theorem GI (m n:Nat) (ho:o.op=.binOp .quo ty x y bN:=by exact rfl) (hx:ev ρ x=some (.int .u64 (m:Nat)):=by exact rfl) (hy:ev ρ y=some (.int .u64 (n:Nat)):=by exact rfl) (h0:0<n:=by omega) (hm:m≤18446744073709551615:=by omega):aG P ρ o (.int .u64 ((m/n:Nat):Int)):=Np ho hx hy h0 hm
theorem rT (m n:Nat) (ho:o.op=.binOp .quo ty x y bN:=by exact rfl) (hx:ev ρ x=some (.int .i64 (m:Nat)):=by exact rfl) (hy:ev ρ y=some (.int .i64 (n:Nat)):=by exact rfl) (h0:0<n:=by omega) (hm:m≤9223372036854775807:=by omega):aG P ρ o (.int .i64 ((m/n:Nat):Int)):=MZ ho hx hy h0 hm
theorem acU (m n:Nat) {k':IntKind} (ho:o.op=.binOp .shl ty x y bN:=by exact rfl) (hx:ev ρ x=some (.int .u8 (m:Nat)):=by exact rfl) (hy:ev ρ y=some (.int k' (n:Nat)):=by exact rfl) (hn:n≤8:=by omega) (h:m*2^n≤255:=by omega):aG P ρ o (.int .u8 ((m*2^n:Nat):Int)):=VZ ho hx hy hn h
theorem acV (m n:Nat) {k':IntKind} (ho:o.op=.binOp .shl ty x y bN:=by exact rfl) (hx:ev ρ x=some (.int .u16 (m:Nat)):=by exact rfl) (hy:ev ρ y=some (.int k' (n:Nat)):=by exact rfl) (hn:n≤16:=by omega) (h:m*2^n≤65535:=by omega):aG P ρ o (.int .u16 ((m*2^n:Nat):Int)):=M7 ho hx hy hn h
theorem Pr (m n:Nat) {k':IntKind} (ho:o.op=.binOp .shl ty x y bN:=by exact rfl) (hx:ev ρ x=some (.int .u32 (m:Nat)):=by exact rfl) (hy:ev ρ y=some (.int k' (n:Nat)):=by exact rfl) (hn:n≤32:=by omega) (h:m*2^n≤4294967295:=by omega):aG P ρ o (.int .u32 ((m*2^n:Nat):Int)):=Nd ho hx hy hn h
theorem acW (m n:Nat) {k':IntKind} (ho:o.op=.binOp .shl ty x y bN:=by exact rfl) (hx:ev ρ x=some (.int .u64 (m:Nat)):=by exact rfl) (hy:ev ρ y=some (.int k' (n:Nat)):=by exact rfl) (hn:n≤64:=by omega) (h:m*2^n≤18446744073709551615:=by omega):aG P ρ o (.int .u64 ((m*2^n:Nat):Int)):=No ho hx hy hn h
theorem Ps (m n:Nat) {k':IntKind} (ho:o.op=.binOp .shl ty x y bN:=by exact rfl) (hx:ev ρ x=some (.int .i16 (m:Nat)):=by exact rfl) (hy:ev ρ y=some (.int k' (n:Nat)):=by exact rfl) (hn:n≤16:=by omega) (h:m*2^n≤32767:=by omega):aG P ρ o (.int .i16 ((m*2^n:Nat):Int)):=MM ho hx hy hn h
theorem acX (m n:Nat) {k':IntKind} (ho:o.op=.binOp .shl ty x y bN:=by exact rfl) (hx:ev ρ x=some (.int .i32 (m:Nat)):=by exact rfl) (hy:ev ρ y=some (.int k' (n:Nat)):=by exact rfl) (hn:n≤32:=by omega) (h:m*2^n≤2147483647:=by omega):aG P ρ o (.int .i32 ((m*2^n:Nat):Int)):=MR ho hx hy hn h
theorem vg (m n:Nat) {k':IntKind} (ho:o.op=.binOp .shl ty x y bN:=by exact rfl) (hx:ev ρ x=some (.int .i64 (m:Nat)):=by exact rfl) (hy:ev ρ y=some (.int k' (n:Nat)):=by exact rfl) (hn:n≤64:=by omega) (h:m*2^n≤9223372036854775807:=by omega):aG P ρ o (.int .i64 ((m*2^n:Nat):Int)):=MY ho hx hy hn h
theorem Pu (m n:Nat) {k':IntKind} (ho:o.op=.binOp .shl ty x y bN:=by exact rfl) (hx:ev ρ x=some (.int .u16 (m:Nat)):=by exact rfl) (hy:ev ρ y=some (.int k' (n:Nat)):=by exact rfl):aG P ρ o (.int .u16 ((m*2^n%65536:Nat):Int)):=M8 ho hx hy
theorem cl (m n:Nat) {k':IntKind} (ho:o.op=.binOp .shl ty x y bN:=by exact rfl) (hx:ev ρ x=some (.int .u32 (m:Nat)):=by exact rfl) (hy:ev ρ y=some (.int k' (n:Nat)):=by exact rfl):aG P ρ o (.int .u32 ((m*2^n%4294967296:Nat):Int)):=Ni ho hx hy
theorem ji (m n:Nat) {k':IntKind} (ho:o.op=.binOp .shl ty x y bN:=by exact rfl) (hx:ev ρ x=some (.int .u64 (m:Nat)):=by exact rfl) (hy:ev ρ y=some (.int k' (n:Nat)):=by exact rfl):aG P ρ o (.int .u64 ((m*2^n%18446744073709551616:Nat):Int)):=Nq ho hx hy
theorem GJ (m n:Nat) {k':IntKind} (ho:o.op=.binOp .shr ty x y bN:=by exact rfl) (hx:ev ρ x=some (.int .u8 (m:Nat)):=by exact rfl) (hy:ev ρ y=some (.int k' (n:Nat)):=by exact rfl) (h:m<256:=by omega):aG P ρ o (.int .u8 ((m/2^n:Nat):Int)):=VY ho hx hy h
theorem ax (m n:Nat) {k':IntKind} (ho:o.op=.binOp .shr ty x y bN:=by exact rfl) (hx:ev ρ x=some (.int .u16 (m:Nat)):=by exact rfl) (hy:ev ρ y=some (.int k' (n:Nat)):=by exact rfl) (h:m<65536:=by omega):aG P ρ o (.int .u16 ((m/2^n:Nat):Int)):=M6 ho hx hy h
theorem rU (m n:Nat) {k':IntKind} (ho:o.op=.binOp .shr ty x y bN:=by exact rfl) (hx:ev ρ x=some (.int .u32 (m:Nat)):=by exact rfl) (hy:ev ρ y=some (.int k' (n:Nat)):=by exact rfl) (h:m<4294967296:=by omega):aG P ρ o (.int .u32 ((m/2^n:Nat):Int)):=Nc ho hx hy h
theorem aF (m n:Nat) {k':IntKind} (ho:o.op=.binOp .shr ty x y bN:=by exact rfl) (hx:ev ρ x=some (.int .u64 (m:Nat)):=by exact rfl) (hy:ev ρ y=some (.int k' (n:Nat)):=by exact rfl) (h:m<18446744073709551616:=by omega):aG P ρ o (.int .u64 ((m/2^n:Nat):Int)):=Nn ho hx hy h
theorem acY (m n:Nat) {k':IntKind} (ho:o.op=.binOp .shr ty x y bN:=by exact rfl) (hx:ev ρ x=some (.int .i16 (m:Nat)):=by exact rfl) (hy:ev ρ y=some (.int k' (n:Nat)):=by exact rfl) (h:m<65536:=by omega):aG P ρ o (.int .i16 ((m/2^n:Nat):Int)):=ML ho hx hy h
theorem Pv (m n:Nat) {k':IntKind} (ho:o.op=.binOp .shr ty x y bN:=by exact rfl) (hx:ev ρ x=some (.int .i32 (m:Nat)):=by exact rfl) (hy:ev ρ y=some (.int k' (n:Nat)):=by exact rfl) (h:m<4294967296:=by omega):aG P ρ o (.int .i32 ((m/2^n:Nat):Int)):=MQ ho hx hy h
theorem GK (m n:Nat) {k':IntKind} (ho:o.op=.binOp .shr ty x y bN:=by exact rfl) (hx:ev ρ x=some (.int .i64 (m:Nat)):=by exact rfl) (hy:ev ρ y=some (.int k' (n:Nat)):=by exact rfl) (h:m<18446744073709551616:=by omega):aG P ρ o (.int .i64 ((m/2^n:Nat):Int)):=MX ho hx hy h
theorem xW (m n:Nat) (ho:o.op=.binOp .sub ty x y bN:=by exact rfl) (hx:ev ρ x=some (.int .u8 (m:Nat)):=by exact rfl) (hy:ev ρ y=some (.int .u8 (n:Nat)):=by exact rfl) (h:n≤m∧m≤255:=by omega):aG P ρ o (.int .u8 ((m-n:Nat):Int)):=VW ho hx hy h
theorem acZ (m n:Nat) (ho:o.op=.binOp .sub ty x y bN:=by exact rfl) (hx:ev ρ x=some (.int .u16 (m:Nat)):=by exact rfl) (hy:ev ρ y=some (.int .u16 (n:Nat)):=by exact rfl) (h:n≤m∧m≤65535:=by omega):aG P ρ o (.int .u16 ((m-n:Nat):Int)):=M4 ho hx hy h
theorem BU (m n:Nat) (ho:o.op=.binOp .sub ty x y bN:=by exact rfl) (hx:ev ρ x=some (.int .u32 (m:Nat)):=by exact rfl) (hy:ev ρ y=some (.int .u32 (n:Nat)):=by exact rfl) (h:n≤m∧m≤4294967295:=by omega):aG P ρ o (.int .u32 ((m-n:Nat):Int)):=Na ho hx hy h
theorem jj (m n:Nat) (ho:o.op=.binOp .sub ty x y bN:=by exact rfl) (hx:ev ρ x=some (.int .u64 (m:Nat)):=by exact rfl) (hy:ev ρ y=some (.int .u64 (n:Nat)):=by exact rfl) (h:n≤m∧m≤18446744073709551615:=by omega):aG P ρ o (.int .u64 ((m-n:Nat):Int)):=Nl ho hx hy h
theorem Pw (m n:Nat) (ho:o.op=.binOp .sub ty x y bN:=by exact rfl) (hx:ev ρ x=some (.int .i8 (m:Nat)):=by exact rfl) (hy:ev ρ y=some (.int .i8 (n:Nat)):=by exact rfl) (h:n≤m∧m≤127:=by omega):aG P ρ o (.int .i8 ((m-n:Nat):Int)):=VN ho hx hy h
theorem BV (m n:Nat) (ho:o.op=.binOp .sub ty x y bN:=by exact rfl) (hx:ev ρ x=some (.int .i16 (m:Nat)):=by exact rfl) (hy:ev ρ y=some (.int .i16 (n:Nat)):=by exact rfl) (h:n≤m∧m≤32767:=by omega):aG P ρ o (.int .i16 ((m-n:Nat):Int)):=MK ho hx hy h
theorem ac0 (m n:Nat) (ho:o.op=.binOp .sub ty x y bN:=by exact rfl) (hx:ev ρ x=some (.int .i32 (m:Nat)):=by exact rfl) (hy:ev ρ y=some (.int .i32 (n:Nat)):=by exact rfl) (h:n≤m∧m≤2147483647:=by omega):aG P ρ o (.int .i32 ((m-n:Nat):Int)):=MP ho hx hy h
theorem rV (m n:Nat) (ho:o.op=.binOp .sub ty x y bN:=by exact rfl) (hx:ev ρ x=some (.int .i64 (m:Nat)):=by exact rfl) (hy:ev ρ y=some (.int .i64 (n:Nat)):=by exact rfl) (h:n≤m∧m≤9223372036854775807:=by omega):aG P ρ o (.int .i64 ((m-n:Nat):Int)):=MV ho hx hy h
theorem ac1 (m n:Nat) (ho:o.op=.binOp .sub ty x y bN:=by exact rfl) (hx:ev ρ x=some (.int .u8 (m:Nat)):=by exact rfl) (hy:ev ρ y=some (.int .u8 (n:Nat)):=by exact rfl) (h:n≤256:=by omega):aG P ρ o (.int .u8 (((m+256-n)%256:Nat):Int)):=V3 ho hx hy h
theorem ac2 (m n:Nat) (ho:o.op=.binOp .sub ty x y bN:=by exact rfl) (hx:ev ρ x=some (.int .u32 (m:Nat)):=by exact rfl) (hy:ev ρ y=some (.int .u32 (n:Nat)):=by exact rfl) (h:n≤4294967296:=by omega):aG P ρ o (.int .u32 (((m+4294967296-n)%4294967296:Nat):Int)):=Nh ho hx hy h
end
abbrev e_4:Nat × Kd:=(4,.e)
abbrev e_5:Nat × Kd:=(5,.e)
abbrev e_6:Nat × Kd:=(6,.e)
abbrev Xd:Nat × Kd:=(7,.e)
abbrev FF:Nat × Kd:=(8,.e)
abbrev jU:Nat × Kd:=(9,.e)
abbrev po:Nat × Kd:=(10,.e)
abbrev Le:Nat × Kd:=(11,.e)
abbrev Lf:Nat × Kd:=(12,.e)
abbrev Lg:Nat × Kd:=(13,.e)
abbrev aj4:Nat × Kd:=(14,.e)
abbrev Eg:Nat × Kd:=(15,.e)
abbrev Px:Nat × Kd:=(16,.e)
abbrev Py:Nat × Kd:=(18,.e)
abbrev asZ:Nat × Kd:=(20,.e)
abbrev ac3:Nat × Kd:=(21,.e)
abbrev as0:Nat × Kd:=(24,.e)
abbrev BX:Nat × Kd:=(25,.e)
abbrev as1:Nat × Kd:=(26,.e)
abbrev Me:Nat × Kd:=(0,.r)
abbrev r_1:Nat × Kd:=(1,.r)
abbrev Mf:Nat × Kd:=(2,.r)
abbrev ic:Nat × Kd:=(3,.r)
abbrev gZ:Nat × Kd:=(4,.r)
abbrev Lh:Nat × Kd:=(5,.r)
abbrev rf:Nat × Kd:=(6,.r)
abbrev nZ:Nat × Kd:=(7,.r)
abbrev AF:Nat × Kd:=(8,.r)
abbrev BY:Nat × Kd:=(9,.r)
abbrev zq:Nat × Kd:=(10,.r)
abbrev kL:Nat × Kd:=(11,.r)
abbrev vh:Nat × Kd:=(12,.r)
abbrev ac4:Nat × Kd:=(13,.r)
abbrev vi:Nat × Kd:=(14,.r)
abbrev Xe:Nat × Kd:=(15,.r)
abbrev aj5:Nat × Kd:=(16,.r)
abbrev Li:Nat × Kd:=(17,.r)
abbrev vj:Nat × Kd:=(18,.r)
abbrev zr:Nat × Kd:=(19,.r)
abbrev aj6:Nat × Kd:=(23,.r)
abbrev as2:Nat × Kd:=(24,.r)
abbrev as3:Nat × Kd:=(30,.r)
abbrev as4:Nat × Kd:=(36,.r)
abbrev as5:Nat × Kd:=(42,.r)
abbrev bE:Nat × Kd:=(0,.y)
abbrev bB:Nat × Kd:=(1,.y)
abbrev bG:Nat × Kd:=(2,.y)
abbrev cW:Nat × Kd:=(3,.y)
abbrev dr:Nat × Kd:=(4,.y)
abbrev bR:Nat × Kd:=(5,.y)
abbrev cw:Nat × Kd:=(6,.y)
abbrev cN:Nat × Kd:=(7,.y)
abbrev cJ:Nat × Kd:=(8,.y)
abbrev dK:Nat × Kd:=(9,.y)
abbrev ch:Nat × Kd:=(10,.y)
abbrev eg:Nat × Kd:=(11,.y)
abbrev dU:Nat × Kd:=(12,.y)
abbrev dE:Nat × Kd:=(13,.y)
abbrev eI:Nat × Kd:=(14,.y)
abbrev eS:Nat × Kd:=(15,.y)
abbrev iq:Nat × Kd:=(16,.y)
abbrev jG:Nat × Kd:=(17,.y)
abbrev rW:Nat × Kd:=(18,.y)
abbrev nF:Nat × Kd:=(19,.y)
abbrev jV:Nat × Kd:=(20,.y)
abbrev kM:Nat × Kd:=(21,.y)
abbrev kk:Nat × Kd:=(22,.y)
abbrev wo:Nat × Kd:=(23,.y)
abbrev wq:Nat × Kd:=(24,.y)
abbrev Xf:Nat × Kd:=(25,.y)
abbrev ac5:Nat × Kd:=(26,.y)
abbrev ac6:Nat × Kd:=(27,.y)
abbrev as6:Nat × Kd:=(28,.y)
abbrev as7:Nat × Kd:=(29,.y)
abbrev as8:Nat × Kd:=(31,.y)
abbrev as9:Nat × Kd:=(32,.y)
abbrev ata:Nat × Kd:=(33,.y)
abbrev atb:Nat × Kd:=(34,.y)
abbrev atc:Nat × Kd:=(35,.y)
abbrev atd:Nat × Kd:=(37,.y)
abbrev ate:Nat × Kd:=(38,.y)
abbrev atf:Nat × Kd:=(39,.y)
abbrev atg:Nat × Kd:=(40,.y)
abbrev ath:Nat × Kd:=(41,.y)
abbrev ati:Nat × Kd:=(43,.y)
abbrev atj:Nat × Kd:=(44,.y)
abbrev atk:Nat × Kd:=(45,.y)
abbrev atl:Nat × Kd:=(46,.y)
section
variable {K:Kx} {Q:Exit→Act→World→Prop} {ρ:aC} {l r:List au} {id:Nat} {L:List Oper}
theorem Zg (E:Nat) (order:List (Nat × Kd)) (h:GP Tryz.prog K Q L order ρ l r) (hB:Jb L E order=true:=by kernel_rfl) (hQ:∀c a w (d:Nat) v,Q (.panic c) (a.put (some d) v) w→Q (.panic c) a w:=by exact fun _ _ _ _ _ h=>h):G Tryz.prog K Q (.region id L.toArray true) ρ l r:=G.asv E order mo hB hQ h
theorem Zh (E:Nat) (pl:Pl) (h:GT Tryz.prog K Q L pl ρ l r) (hB:Jj L E pl=true:=by kernel_rfl) (hQ:∀c a w (d:Nat) v,Q (.panic c) (a.put (some d) v) w→Q (.panic c) a w:=by exact fun _ _ _ _ _ h=>h):G Tryz.prog K Q (.region id L.toArray true) ρ l r:=G.tree E pl mo hB hQ h
end
class fB (s f:Nat) (n:outParam Nat):Prop where
  h:fieldOff Tryz.prog s f=some n
instance aj7:fB 103 0 0:=⟨Kr⟩
instance aj8:fB 103 1 1:=⟨Kr⟩
instance aj9:fB 103 2 2:=⟨Kr⟩
instance aka:fB 106 0 0:=⟨Kr⟩
instance akb:fB 106 1 256:=⟨Kr⟩
instance aiP:fB 106 10 528:=⟨Kr⟩
instance aiQ:fB 106 11 529:=⟨Kr⟩
instance aiR:fB 106 12 530:=⟨Kr⟩
instance aiS:fB 106 13 531:=⟨Kr⟩
instance aiT:fB 106 14 532:=⟨Kr⟩
instance aiU:fB 106 15 533:=⟨Kr⟩
instance akc:fB 106 2 512:=⟨Kr⟩
instance akd:fB 106 3 514:=⟨Kr⟩
instance ake:fB 106 4 518:=⟨Kr⟩
instance akf:fB 106 5 521:=⟨Kr⟩
instance akg:fB 106 6 524:=⟨Kr⟩
instance akh:fB 106 7 525:=⟨Kr⟩
instance aki:fB 106 8 526:=⟨Kr⟩
instance akj:fB 106 9 527:=⟨Kr⟩
instance akk:fB 112 0 0:=⟨Kr⟩
instance akl:fB 112 1 1:=⟨Kr⟩
instance akm:fB 114 0 0:=⟨Kr⟩
instance akn:fB 118 0 0:=⟨Kr⟩
instance Eh:fB 118 1 1:=⟨Kr⟩
instance Ei:fB 118 2 2:=⟨Kr⟩
instance ako:fB 120 0 0:=⟨Kr⟩
instance akp:fB 120 1 1:=⟨Kr⟩
instance akq:fB 120 2 2:=⟨Kr⟩
instance akr:fB 120 3 3:=⟨Kr⟩
instance aks:fB 142 0 0:=⟨Kr⟩
instance Pz:fB 142 1 1:=⟨Kr⟩
instance akt:fB 142 2 2:=⟨Kr⟩
instance aT:fB 142 3 3:=⟨Kr⟩
instance aku:fB 165 0 0:=⟨Kr⟩
instance akv:fB 165 1 1:=⟨Kr⟩
instance akw:fB 165 2 2:=⟨Kr⟩
instance akx:fB 169 0 0:=⟨Kr⟩
instance aky:fB 169 1 1:=⟨Kr⟩
instance akz:fB 169 2 2:=⟨Kr⟩
instance akA:fB 183 0 0:=⟨Kr⟩
instance akB:fB 183 1 1:=⟨Kr⟩
instance akC:fB 183 2 2:=⟨Kr⟩
instance akD:fB 186 0 0:=⟨Kr⟩
instance akE:fB 186 1 1:=⟨Kr⟩
instance akF:fB 186 2 2:=⟨Kr⟩
instance akG:fB 196 0 0:=⟨Kr⟩
instance akH:fB 196 1 1:=⟨Kr⟩
instance akI:fB 205 0 0:=⟨Kr⟩
instance akJ:fB 205 1 1:=⟨Kr⟩
instance akK:fB 208 0 0:=⟨Kr⟩
instance akL:fB 208 1 1:=⟨Kr⟩
instance akM:fB 208 2 2:=⟨Kr⟩
instance arj:fB 63 0 0:=⟨Kr⟩
instance ark:fB 71 0 0:=⟨Kr⟩
instance arl:fB 71 1 256:=⟨Kr⟩
instance akN:fB 71 10 265:=⟨Kr⟩
instance akO:fB 71 11 266:=⟨Kr⟩
instance akP:fB 71 12 267:=⟨Kr⟩
instance akQ:fB 71 13 268:=⟨Kr⟩
instance akR:fB 71 14 269:=⟨Kr⟩
instance akS:fB 71 15 270:=⟨Kr⟩
instance akT:fB 71 16 271:=⟨Kr⟩
instance akU:fB 71 17 272:=⟨Kr⟩
instance akV:fB 71 18 273:=⟨Kr⟩
instance arn:fB 71 2 257:=⟨Kr⟩
instance akW:fB 71 20 278:=⟨Kr⟩
instance akX:fB 71 22 279:=⟨Kr⟩
instance aro:fB 71 3 258:=⟨Kr⟩
instance arp:fB 71 4 259:=⟨Kr⟩
instance arq:fB 71 5 260:=⟨Kr⟩
instance ars:fB 71 6 261:=⟨Kr⟩
instance art:fB 71 7 262:=⟨Kr⟩
instance aru:fB 71 8 263:=⟨Kr⟩
instance arv:fB 71 9 264:=⟨Kr⟩
instance arw:fB 94 0 0:=⟨Kr⟩
instance arx:fB 94 1 1:=⟨Kr⟩
instance ary:fB 97 0 0:=⟨Kr⟩
instance arz:fB 97 1 1:=⟨Kr⟩
instance arA:fB 97 2 2:=⟨Kr⟩
instance arB:fB 97 3 3:=⟨Kr⟩
instance arC:fB 99 0 0:=⟨Kr⟩
instance arD:fB 99 1 1:=⟨Kr⟩
instance arE:fB 99 2 2:=⟨Kr⟩
theorem Tfo {s f:Nat} {n:Nat} [c:fB s f n]:fieldOff Tryz.prog s f=some n:=c.h
class kx (t:Nat) (D:outParam TypeDesc):Prop where
  h:Tryz.prog.underlying t=some D
instance atm:kx 100 (.slice 58):=⟨Kr⟩
instance atn:kx 101 (.slice 205):=⟨Kr⟩
instance ato:kx 104 (.slice 165):=⟨Kr⟩
instance PB:kx 123 (.pointer 148):=⟨Kr⟩
instance GM:kx 136 (.pointer 138):=⟨Kr⟩
instance atp:kx 150 (.int .i8):=⟨Kr⟩
instance atq:kx 163 (.slice 91):=⟨Kr⟩
instance ac7:kx 174 (.int .u64):=⟨Kr⟩
instance atr:kx 198 (.slice 196):=⟨Kr⟩
instance AG:kx 21 (.int .i32):=⟨Kr⟩
instance lG:kx 22 (.slice 5):=⟨Kr⟩
instance Ej:kx 3 (.int .i64):=⟨Kr⟩
instance vQ:kx 32 (.int .u64):=⟨Kr⟩
instance aCq:kx 43 (.slice 46):=⟨Kr⟩
instance pq:kx 46 (.int .u32):=⟨Kr⟩
instance a8:kx 5 (.int .u8):=⟨Kr⟩
instance akY:kx 55 (.pointer 71):=⟨Kr⟩
instance aD:kx 58 (.int .u16):=⟨Kr⟩
instance aCr:kx 60 (.slice 112):=⟨Kr⟩
instance aCs:kx 61 (.slice 114):=⟨Kr⟩
instance aCt:kx 64 (.slice 174):=⟨Kr⟩
instance ZH:kx 66 (.pointer 106):=⟨Kr⟩
instance n4:kx 69 (.array 256 5):=⟨Kr⟩
instance fV:kx 73 (.interface #[("Error",218)]):=⟨Kr⟩
instance Xg:kx 9 (.string):=⟨Kr⟩
instance xX:kx 91 (.int .i16):=⟨Kr⟩
instance ZI:kx 95 (.int .u64):=⟨Kr⟩
theorem Xh {t:Nat} {D:TypeDesc} [c:kx t D]:Tryz.prog.underlying t=some D:=c.h
class qE (t:Nat) (b:outParam Bool):Prop where
  h:l9 Tryz.prog t=some b
instance ats:qE 100 false:=⟨Kr⟩
instance att:qE 101 false:=⟨Kr⟩
instance PD:qE 104 false:=⟨Kr⟩
instance vk:qE 112 true:=⟨Kr⟩
instance ba:qE 114 true:=⟨Kr⟩
instance PE:qE 116 false:=⟨Kr⟩
instance pr:qE 165 true:=⟨Kr⟩
instance atu:qE 166 false:=⟨Kr⟩
instance BZ:qE 172 true:=⟨Kr⟩
instance atv:qE 174 false:=⟨Kr⟩
instance rX:qE 186 true:=⟨Kr⟩
instance iF:qE 205 true:=⟨Kr⟩
instance atw:qE 206 false:=⟨Kr⟩
instance aCu:qE 21 false:=⟨Kr⟩
instance ed:qE 22 false:=⟨Kr⟩
instance Xi:qE 3 false:=⟨Kr⟩
instance PF:qE 32 false:=⟨Kr⟩
instance aHy:qE 4 false:=⟨Kr⟩
instance fW:qE 46 false:=⟨Kr⟩
instance cM:qE 5 false:=⟨Kr⟩
instance aCv:qE 56 false:=⟨Kr⟩
instance akZ:qE 57 true:=⟨Kr⟩
instance cQ:qE 58 false:=⟨Kr⟩
instance ZJ:qE 60 false:=⟨Kr⟩
instance Ek:qE 61 false:=⟨Kr⟩
instance ak0:qE 63 true:=⟨Kr⟩
instance aCw:qE 64 false:=⟨Kr⟩
instance aCx:qE 66 false:=⟨Kr⟩
instance n5:qE 69 true:=⟨Kr⟩
instance aCy:qE 73 false:=⟨Kr⟩
instance tZ:qE 91 false:=⟨Kr⟩
instance n8:qE 94 true:=⟨Kr⟩
instance aCz:qE 95 false:=⟨Kr⟩
theorem Tag {t:Nat} {b:Bool} [c:qE t b]:l9 Tryz.prog t=some b:=c.h
class rh (t:Nat) (n:outParam Nat):Prop where
  h:eV Tryz.prog t=some n
instance PG:rh 100 1:=⟨Kr⟩
instance atx:rh 101 1:=⟨Kr⟩
instance ac8:rh 104 1:=⟨Kr⟩
instance lN:rh 112 2:=⟨Kr⟩
instance aj:rh 114 1:=⟨Kr⟩
instance lO:rh 165 3:=⟨Kr⟩
instance aty:rh 166 1:=⟨Kr⟩
instance B1:rh 172 0:=⟨Kr⟩
instance atz:rh 174 1:=⟨Kr⟩
instance ac9:rh 183 3:=⟨Kr⟩
instance km:rh 186 3:=⟨Kr⟩
instance iG:rh 205 2:=⟨Kr⟩
instance atA:rh 206 1:=⟨Kr⟩
instance ZK:rh 21 1:=⟨Kr⟩
instance jk:rh 22 1:=⟨Kr⟩
instance B3:rh 3 1:=⟨Kr⟩
instance aCA:rh 32 1:=⟨Kr⟩
instance atB:rh 4 1:=⟨Kr⟩
instance El:rh 46 1:=⟨Kr⟩
instance gh:rh 5 1:=⟨Kr⟩
instance ak1:rh 57 256:=⟨Kr⟩
instance AH:rh 58 1:=⟨Kr⟩
instance ZL:rh 60 1:=⟨Kr⟩
instance ak2:rh 61 1:=⟨Kr⟩
instance ak3:rh 63 1:=⟨Kr⟩
instance J0:rh 64 1:=⟨Kr⟩
instance ZM:rh 66 1:=⟨Kr⟩
instance gy:rh 69 256:=⟨Kr⟩
instance Em:rh 91 1:=⟨Kr⟩
instance n9:rh 94 2:=⟨Kr⟩
instance AI:rh 95 1:=⟨Kr⟩
theorem Lj {t:Nat} {n:Nat} [c:rh t n]:eV Tryz.prog t=some n:=c.h
class U9 (t:Nat) (n:outParam Nat):Prop where
  h:cF Tryz.prog t=some n
instance atC:U9 100 1:=⟨Kr⟩
instance ga:U9 101 2:=⟨Kr⟩
instance jl:U9 104 3:=⟨Kr⟩
instance atD:U9 163 1:=⟨Kr⟩
instance ak:U9 22 1:=⟨Kr⟩
instance aCB:U9 43 1:=⟨Kr⟩
instance mL:U9 60 2:=⟨Kr⟩
instance AJ:U9 61 1:=⟨Kr⟩
instance En:U9 64 1:=⟨Kr⟩
theorem Tse {t:Nat} {n:Nat} [c:U9 t n]:cF Tryz.prog t=some n:=c.h
class Eo (t:Nat) (n:outParam (Nat × Nat)):Prop where
  h:gP Tryz.prog t=some n
instance atE:Eo 108 (16,1):=⟨Kr⟩
instance nG:Eo 109 (4,16):=⟨Kr⟩
instance atF:Eo 121 (4,4):=⟨Kr⟩
instance gw:Eo 143 (4,4):=⟨Kr⟩
instance PH:Eo 148 (4,256):=⟨Kr⟩
instance atG:Eo 152 (12,1):=⟨Kr⟩
instance atH:Eo 179 (12,1):=⟨Kr⟩
instance atI:Eo 180 (16,1):=⟨Kr⟩
instance atJ:Eo 197 (32,2):=⟨Kr⟩
instance ada:Eo 201 (13,1):=⟨Kr⟩
instance atK:Eo 202 (8,1):=⟨Kr⟩
instance atL:Eo 203 (257,1):=⟨Kr⟩
instance atN:Eo 217 (32,1):=⟨Kr⟩
instance ZN:Eo 57 (256,1):=⟨Kr⟩
instance xY:Eo 69 (256,1):=⟨Kr⟩
instance jm:Eo 92 (256,1):=⟨Kr⟩
theorem Tae {t:Nat} {n:(Nat × Nat)} [c:Eo t n]:gP Tryz.prog t=some n:=c.h
class wu (t:Nat) (n:outParam (List Value)):Prop where
  h:vv Tryz.prog t=some n
instance PJ:wu 106 ((aa .u32 (List.replicate 256 0))++(aa .i16 (List.replicate 256 0))++[.slice none 0 0,.int .i64 ((0:Nat):Int),.slice none 0 0,.int .u64 ((0:Nat):Int),.int .u64 ((0:Nat):Int),.int .u8 ((0:Nat):Int),.int .u64 ((0:Nat):Int),.int .u8 ((0:Nat):Int),.slice none 0 0,.slice none 0 0,.slice none 0 0,.slice none 0 0,.slice none 0 0,.int .i64 ((0:Nat):Int),.slice none 0 0,.int .i64 ((0:Nat):Int),.int .u16 ((0:Nat):Int),.int .u8 ((0:Nat):Int),.bool false,.bool false,.int .u8 ((0:Nat):Int),.int .u8 ((0:Nat):Int)]):=⟨Kr⟩
instance adb:wu 108 ((aa .u32 (List.replicate 16 0))):=⟨Kr⟩
instance ade:wu 109 ((aa .u32 (List.replicate 64 0))):=⟨Kr⟩
instance B4:wu 112 ([.int .u16 ((0:Nat):Int),.int .u8 ((0:Nat):Int)]):=⟨Kr⟩
instance dF:wu 114 ([.int .u16 ((0:Nat):Int)]):=⟨Kr⟩
instance adf:wu 118 ([.slice none 0 0,.int .u8 ((0:Nat):Int),(Value.pointer none)]):=⟨Kr⟩
instance adg:wu 120 ([.slice none 0 0,.int .u64 ((0:Nat):Int),.int .u64 ((0:Nat):Int),.int .u8 ((0:Nat):Int)]):=⟨Kr⟩
instance adh:wu 121 ([.slice none 0 0,.int .u64 ((0:Nat):Int),.int .u64 ((0:Nat):Int),.int .u8 ((0:Nat):Int),.slice none 0 0,.int .u64 ((0:Nat):Int),.int .u64 ((0:Nat):Int),.int .u8 ((0:Nat):Int),.slice none 0 0,.int .u64 ((0:Nat):Int),.int .u64 ((0:Nat):Int),.int .u8 ((0:Nat):Int),.slice none 0 0,.int .u64 ((0:Nat):Int),.int .u64 ((0:Nat):Int),.int .u8 ((0:Nat):Int)]):=⟨Kr⟩
instance adi:wu 138 ([(.string ⟨#[]⟩)]):=⟨Kr⟩
instance PK:wu 142 ([.slice none 0 0,.int .u64 ((0:Nat):Int),.int .u64 ((0:Nat):Int),.int .u8 ((0:Nat):Int)]):=⟨Kr⟩
instance PM:wu 143 ([.slice none 0 0,.int .u64 ((0:Nat):Int),.int .u64 ((0:Nat):Int),.int .u8 ((0:Nat):Int),.slice none 0 0,.int .u64 ((0:Nat):Int),.int .u64 ((0:Nat):Int),.int .u8 ((0:Nat):Int),.slice none 0 0,.int .u64 ((0:Nat):Int),.int .u64 ((0:Nat):Int),.int .u8 ((0:Nat):Int),.slice none 0 0,.int .u64 ((0:Nat):Int),.int .u64 ((0:Nat):Int),.int .u8 ((0:Nat):Int)]):=⟨Kr⟩
instance adj:wu 148 ((aa .u8 (List.replicate 1024 0))):=⟨Kr⟩
instance adk:wu 152 ((aa .u8 (List.replicate 12 0))):=⟨Kr⟩
instance pt:wu 165 ([.int .u16 ((0:Nat):Int),.int .u8 ((0:Nat):Int),.int .u8 ((0:Nat):Int)]):=⟨Kr⟩
instance PN:wu 169 ([.int .u16 ((0:Nat):Int),(Value.pointer none),.slice none 0 0]):=⟨Kr⟩
instance GN:wu 174 ([.int .u64 ((0:Nat):Int)]):=⟨Kr⟩
instance adl:wu 179 ((aa .u16 (List.replicate 12 0))):=⟨Kr⟩
instance adm:wu 180 ((aa .u16 (List.replicate 16 0))):=⟨Kr⟩
instance PO:wu 183 ([.int .u64 ((0:Nat):Int),.int .u8 ((0:Nat):Int),.slice none 0 0]):=⟨Kr⟩
instance B5:wu 186 ([.int .u64 ((0:Nat):Int),.int .u64 ((0:Nat):Int),.int .i64 ((0:Nat):Int)]):=⟨Kr⟩
instance adn:wu 197 ([.int .u32 ((0:Nat):Int),.int .u32 ((0:Nat):Int),.int .u32 ((0:Nat):Int),.int .u32 ((0:Nat):Int),.int .u32 ((0:Nat):Int),.int .u32 ((0:Nat):Int),.int .u32 ((0:Nat):Int),.int .u32 ((0:Nat):Int),.int .u32 ((0:Nat):Int),.int .u32 ((0:Nat):Int),.int .u32 ((0:Nat):Int),.int .u32 ((0:Nat):Int),.int .u32 ((0:Nat):Int),.int .u32 ((0:Nat):Int),.int .u32 ((0:Nat):Int),.int .u32 ((0:Nat):Int),.int .u32 ((0:Nat):Int),.int .u32 ((0:Nat):Int),.int .u32 ((0:Nat):Int),.int .u32 ((0:Nat):Int),.int .u32 ((0:Nat):Int),.int .u32 ((0:Nat):Int),.int .u32 ((0:Nat):Int),.int .u32 ((0:Nat):Int),.int .u32 ((0:Nat):Int),.int .u32 ((0:Nat):Int),.int .u32 ((0:Nat):Int),.int .u32 ((0:Nat):Int),.int .u32 ((0:Nat):Int),.int .u32 ((0:Nat):Int),.int .u32 ((0:Nat):Int),.int .u32 ((0:Nat):Int),.int .u32 ((0:Nat):Int),.int .u32 ((0:Nat):Int),.int .u32 ((0:Nat):Int),.int .u32 ((0:Nat):Int),.int .u32 ((0:Nat):Int),.int .u32 ((0:Nat):Int),.int .u32 ((0:Nat):Int),.int .u32 ((0:Nat):Int),.int .u32 ((0:Nat):Int),.int .u32 ((0:Nat):Int),.int .u32 ((0:Nat):Int),.int .u32 ((0:Nat):Int),.int .u32 ((0:Nat):Int),.int .u32 ((0:Nat):Int),.int .u32 ((0:Nat):Int),.int .u32 ((0:Nat):Int),.int .u32 ((0:Nat):Int),.int .u32 ((0:Nat):Int),.int .u32 ((0:Nat):Int),.int .u32 ((0:Nat):Int),.int .u32 ((0:Nat):Int),.int .u32 ((0:Nat):Int),.int .u32 ((0:Nat):Int),.int .u32 ((0:Nat):Int),.int .u32 ((0:Nat):Int),.int .u32 ((0:Nat):Int),.int .u32 ((0:Nat):Int),.int .u32 ((0:Nat):Int),.int .u32 ((0:Nat):Int),.int .u32 ((0:Nat):Int),.int .u32 ((0:Nat):Int),.int .u32 ((0:Nat):Int)]):=⟨Kr⟩
instance ado:wu 201 ((aa .u32 (List.replicate 13 0))):=⟨Kr⟩
instance adp:wu 203 ((aa .i16 (List.replicate 257 0))):=⟨Kr⟩
instance PQ:wu 208 ([(Value.pointer none),.slice none 0 0,.int .u16 ((0:Nat):Int)]):=⟨Kr⟩
instance PR:wu 71 ((aa .u32 (List.replicate 256 0))++[.slice none 0 0,.slice none 0 0,.slice none 0 0,.int .i64 ((0:Nat):Int),.int .i64 ((0:Nat):Int),.int .u8 ((0:Nat):Int),.int .u8 ((0:Nat):Int),.int .u8 ((0:Nat):Int),.int .u8 ((0:Nat):Int),.int .u16 ((0:Nat):Int),.int .i64 ((0:Nat):Int),.bool false,.int .u8 ((0:Nat):Int),.int .u8 ((0:Nat):Int),.slice none 0 0,.slice none 0 0,.slice none 0 0,.slice none 0 0,.slice none 0 0,.slice none 0 0,.slice none 0 0,.slice none 0 0,(Value.pointer none)]++(aa .u8 (List.replicate 256 0))):=⟨Kr⟩
def bY (k g:Prop):Prop:=k→g
theorem bY.trans {a b c:Prop} (f:bY b c) (g:bY a b):bY a c:=fun h=>f (g h)
theorem bY.of {k g:Prop} (f:k→g):bY k g:=f
theorem EvC {n:Nat} {z:Int} {k:IntKind} {ρ:aC} (hz:z=Int.ofNat n):ev ρ (.const (.int k z))=some (.int k ((@OfNat.ofNat Nat n (instOfNatNat n):Nat):Int)):=by subst hz;rfl
theorem zt {p:Prop} (h:p:=by first|((with_reducible apply EvC);exact rfl)|exact rfl):p:=h
theorem Tom {p:Prop} (h:p:=by omega):p:=h
section
variable {P:Program} {K:Kx} {Q:Exit→Act→World→Prop} {ρ ρ':aC} {l r:List au} {L rest cE:List Oper} {o:Oper} {d i:Nat} {v:Value} {os Ed:List (Nat × Kd)} {pl wm:Pl} {L2:List Oper} {x y z:Code} {id:Nat}
theorem Yyn (h:aG P ρ o v) (hs:advY L K.n o v rest ρ=some (cE,ρ')):bY (GL P K Q L cE ρ' l r) (GL P K Q L (o::rest) ρ l r):=fun g=>Yy h g hs
theorem Yrn (h:nN P ρ l r o v) (hs:advY L K.n o v rest ρ=some (cE,ρ')):bY (GL P K Q L cE ρ' l r) (GL P K Q L (o::rest) ρ l r):=fun g=>Yr h g hs
theorem Ysn {X:aC} {Y:List au} (h:kB P K ρ l r o (fun ρ' l'=>ρ'=X∧l'=Y)) (hw:want L ρ o=some true) (hs:adv L K.n rest X=some (cE,ρ')):bY (GL P K Q L cE ρ' Y r) (GL P K Q L (o::rest) ρ l r):=fun g=>Ys h g hw hs
theorem atO (ho:nth i L=some o) (h:aG P ρ o v) (hs:AB L K.n i v os ρ=some (Ed,ρ')):bY (GP P K Q L Ed ρ' l r) (GP P K Q L ((i,.y)::os) ρ l r):=fun g=>aN (by rw[jh ho];exact h) g hs
theorem atP (ho:nth i L=some o) (h:nN P ρ l r o v) (hs:AB L K.n i v os ρ=some (Ed,ρ')):bY (GP P K Q L Ed ρ' l r) (GP P K Q L ((i,.r)::os) ρ l r):=fun g=>j8 (by rw[jh ho];exact h) g hs
theorem atQ {X:aC} {Y:List au} (ho:nth i L=some o) (h:kB P K ρ l r o (fun ρ' l'=>ρ'=X∧l'=Y)) (hw:pk L ρ i=some true) (hs:advP L K.n os X=some (Ed,ρ')):bY (GP P K Q L Ed ρ' Y r) (GP P K Q L ((i,.e)::os) ρ l r):=fun g=>Yps (by rw[jh ho];exact h) g hw hs
theorem atS (ho:nth i L=some o) (h:aG P ρ o v) (hs:re L K.n i v pl ρ=some (wm,ρ')):bY (GT P K Q L wm ρ' l r) (GT P K Q L (.st i false pl) ρ l r):=fun g=>wO (by rw[jh ho];exact h) g hs
theorem atT (ho:nth i L=some o) (h:nN P ρ l r o v) (hs:re L K.n i v pl ρ=some (wm,ρ')):bY (GT P K Q L wm ρ' l r) (GT P K Q L (.st i true pl) ρ l r):=fun g=>vd (by rw[jh ho];exact h) g hs
theorem atU {X:aC} {Y:List au} (ho:nth i L=some o) (h:kB P K ρ l r o (fun ρ' l'=>ρ'=X∧l'=Y)) (hw:pk L ρ i=some true) (hs:advT L K.n pl X=some (wm,ρ')):bY (GT P K Q L wm ρ' Y r) (GT P K Q L (.ef i pl .stop) ρ l r):=fun g=>AD (by rw[jh ho];exact h) g hw hs
theorem atV (ho:nth i L=some o) (h:nN P ρ l r o v) (hs:re L K.n i v pl ρ=some (wm,ρ')):bY (GT P K Q L wm ρ' l r) (GT P K Q L (.ef i pl .stop) ρ l r):=fun g=>Ytu (by rw[jh ho];exact h) g hs
theorem YGn (hs:adv L2 K.n L2 ρ=some (cE,ρ')):bY (GL P K Q L2 cE ρ' l r) (G P K Q (.region id L2.toArray false) ρ l r):=fun h=>YG h hs
theorem Y1n (hs:adv L2 K.n L2 ρ=some (cE,ρ')):bY (GL P K Q L2 cE ρ' l r) (GL P K (Exit.then ((Code.region id L2.toArray false).wp P Q) Q) L [] ρ l r):=fun h=>Y1 h hs
theorem Y2n (hs:adv L2 K.n L2 ρ=some (cE,ρ')):bY (GL P K (Exit.then (y.wp P Q) Q) L2 cE ρ' l r) (GL P K (Exit.then ((Code.seq (.region id L2.toArray false) y).wp P Q) Q) L [] ρ l r):=fun h=>Y2 h hs
theorem Y3n (hs:adv L2 K.n L2 ρ=some (cE,ρ')):bY (GL P K (Exit.then (y.wp P (Exit.then (z.wp P Q) Q)) (Exit.then (z.wp P Q) Q)) L2 cE ρ' l r) (GL P K (Exit.then ((Code.seq (.seq (.region id L2.toArray false) y) z).wp P Q) Q) L [] ρ l r):=fun h=>Y3 h hs
theorem Y5n (hs:adv L2 K.n L2 ρ=some (cE,ρ')):bY (GL P K (Exit.then (y.wp P Q) Q) L2 cE ρ' l r) (G P K Q (.seq (.region id L2.toArray false) y) ρ l r):=fun h=>Y5 h hs
theorem Y6n (hs:adv L2 K.n L2 ρ=some (cE,ρ')):bY (GL P K (Exit.then (y.wp P (Exit.then (z.wp P Q) Q)) (Exit.then (z.wp P Q) Q)) L2 cE ρ' l r) (G P K Q (.seq (.seq (.region id L2.toArray false) y) z) ρ l r):=fun h=>Y6 h hs
theorem Y8n (hs:adv L2 K.n L2 ρ=some (cE,ρ')):bY (GL P K (Exit.then (y.wp P Q) Q) L2 cE ρ' l r) (G P K (Exit.then ((Code.seq (.region id L2.toArray false) y).wp P Q) Q) .skip ρ l r):=fun h=>Y8 h hs
end
section
variable {ρ:aC} {l r:List au} {D:Option Tmp} {ty bN T t s f n m b q len cap sz:Nat} {x y:Operand} {A:String} {B:Array Edge} {C:Option (Nat × Bool)} {v:Value} {k k':IntKind}
theorem Ofa (hx:ev ρ x=some (.pointer (some ⟨b,q,none⟩))) (hP:fieldOff Tryz.prog s f=some n):aG Tryz.prog ρ ⟨D,.fieldAddr s x f,T,A,B,C⟩ (.pointer (some ⟨b,q+n,none⟩)):=ai0 rfl hx hP
theorem atW {a:Call} {p:Option Addr} (hc:a.callee=.builtin .len) (hx:evs ρ a.args.toList=some [.slice p len cap]) (ht:a.argTypes= #[t]) (hu:Tryz.prog.underlying t=some (.slice s)):aG Tryz.prog ρ ⟨D,.call a,T,A,B,C⟩ (.int .i64 ((len:Nat):Int)):=YT rfl hc hx ht hu
theorem atX {a:Call} {p:Option Addr} (hc:a.callee=.builtin .cap) (hx:evs ρ a.args.toList=some [.slice p len cap]) (ht:a.argTypes= #[t]) (hu:Tryz.prog.underlying t=some (.slice s)):aG Tryz.prog ρ ⟨D,.call a,T,A,B,C⟩ (.int .i64 ((cap:Nat):Int)):=ai3 rfl hc hx ht hu
def adq (bo:BinOp) (X Y v:Value):Prop:=∀(ρ:aC) (o:Oper) (ty bN:TypeId) (x y:Operand),o.op=.binOp bo ty x y bN→ev ρ x=some X→ev ρ y=some Y→aG Tryz.prog ρ o v
theorem at0 {bo:BinOp} {X Y:Value} (hx:ev ρ x=some X) (hy:ev ρ y=some Y) (h:adq bo X Y v):aG Tryz.prog ρ ⟨D,.binOp bo ty x y bN,T,A,B,C⟩ v:=h ρ _ ty bN x y rfl hx hy
def adr (X v:Value) (s t:TypeId):Prop:=∀(ρ:aC) (o:Oper) (x:Operand),o.op=.convert s t x→ev ρ x=some X→aG Tryz.prog ρ o v
theorem at1 {X:Value} (hx:ev ρ x=some X) (h:adr X v s t):aG Tryz.prog ρ ⟨D,.convert s t x,T,A,B,C⟩ v:=h ρ _ x rfl hx
theorem Obo {bo:BinOp} (h:aG Tryz.prog ρ ⟨D,.binOp bo ty x y bN,T,A,B,C⟩ v):aG Tryz.prog ρ ⟨D,.binOp bo ty x y bN,T,A,B,C⟩ v:=h
theorem Omi (h:aG Tryz.prog ρ ⟨D,.makeInterface t x,T,A,B,C⟩ v):aG Tryz.prog ρ ⟨D,.makeInterface t x,T,A,B,C⟩ v:=h
theorem Osl {z2 z3:Option Operand} (h:aG Tryz.prog ρ ⟨D,.slice t x none z2 z3,T,A,B,C⟩ v):aG Tryz.prog ρ ⟨D,.slice t x none z2 z3,T,A,B,C⟩ v:=h
theorem Oun {u:UnOp} (h:aG Tryz.prog ρ ⟨D,.unOp u ty x,T,A,B,C⟩ v):aG Tryz.prog ρ ⟨D,.unOp u ty x,T,A,B,C⟩ v:=h
theorem Oix (hx:ev ρ x=some (.slice (some ⟨b,q,none⟩) len cap)) (hy:ev ρ y=some (.int k (m:Nat))) (hP:cF Tryz.prog t=some 1) (h:m<len) {q':Nat} (hq:q+m=q'):aG Tryz.prog ρ ⟨D,.indexAddr t x y,T,A,B,C⟩ (.pointer (some ⟨b,q',none⟩)):=YL rfl hx hy hP h hq
theorem at2 (hx:ev ρ x=some (.pointer (some ⟨b,q,none⟩))) (hy:ev ρ y=some (.int k (m:Nat))) (hP:gP Tryz.prog t=some (n,1)) (h:m<n) {q':Nat} (hq:q+m=q'):aG Tryz.prog ρ ⟨D,.indexAddr t x y,T,A,B,C⟩ (.pointer (some ⟨b,q',none⟩)):=YM rfl hx hy hP h hq
theorem Oia (hx:ev ρ x=some (.pointer (some ⟨b,q,none⟩))) (hy:ev ρ y=some (.int k (m:Nat))) (hP:gP Tryz.prog t=some (n,sz)) (h:m<n) {q':Nat} (hq:q+m*sz=q'):aG Tryz.prog ρ ⟨D,.indexAddr t x y,T,A,B,C⟩ (.pointer (some ⟨b,q',none⟩)):=abB rfl hx hy hP h hq
def aZ (cs:List Value) (j:Nat) (v:Value):Prop:=cs[j]? =some v
theorem aZ.aa {xs:List Nat} {j:Nat} (h:j<xs.length):aZ (aa k xs) j (.int k ((xs.getD j 0:Nat):Int)):=aM h
theorem aZ.lit {cs:List Value} {j:Nat} {v:Value} (h:cs[j]? =some v):aZ cs j v:=h
def cY (cs:List Value) (j:Nat) (v:Value) (gM:List Value):Prop:=cs.set j v=gM∧j<cs.length∧v.oneCell'=true
theorem cY.aa {xs:List Nat} {j m:Nat} (h:j<xs.length):cY (aa k xs) j (.int k ((m:Nat):Int)) (aa k (xs.set j m)):=⟨sU _ _ _ _,by rw[bQ];exact h,rfl⟩
theorem cY.ints {xs:List Int} {j:Nat} {z:Int} (h:j<xs.length):cY (ints k xs) j (.int k z) (ints k (xs.set j z)):=⟨ints_set _ _ _ _,by simp[ints];exact h,rfl⟩
theorem aZ.ints {xs:List Int} {j:Nat} (h:j<xs.length):aZ (ints k xs) j (.int k (xs.getD j 0)):=ig h
theorem cY.lit {cs:List Value} {j:Nat} {v:Value} (hj:Nat.ble (j+1) cs.length=true) (hv:v.oneCell'=true):cY cs j v (cs.set j v):=⟨rfl,Nat.le_of_ble_eq_true hj,hv⟩
theorem Old {i j o:Nat} {cs:List Value} {sh:Option (TypeId × Nat)} (hx:ev ρ x=some (.pointer (some ⟨b,q,none⟩))) (hs:nthS i l=some ⟨b,o,cs,sh⟩) (hq:q=o+j) (hc:aZ cs j v) (hP:l9 Tryz.prog t=some false):nN Tryz.prog ρ l r ⟨D,.load t x,T,A,B,C⟩ v:=cU i j hs rfl hx hP hq hc
theorem at3 {i j o:Nat} {cs:List Value} {sh:Option (TypeId × Nat)} (hx:ev ρ x=some (.pointer (some ⟨b,q,none⟩))) (hs:nthS i r=some ⟨b,o,cs,sh⟩) (hq:q=o+j) (hc:aZ cs j v) (hP:l9 Tryz.prog t=some false):nN Tryz.prog ρ l r ⟨D,.load t x,T,A,B,C⟩ v:=nO i j hs rfl hx hP hq hc
theorem Ost {K:Kx} {i j o:Nat} {cs gM:List Value} {sh:Option (TypeId × Nat)} (hx:ev ρ x=some (.pointer (some ⟨b,q,none⟩))) (hs:nthS i l=some ⟨b,o,cs,sh⟩) (hq:q=o+j) (hy:ev ρ y=some v) (hc:cY cs j v gM) (hd:D=none) (hP:eV Tryz.prog t=some 1):kB Tryz.prog K ρ l r ⟨D,.store t x y,T,A,B,C⟩ (fun ρ' l'=>ρ'=ρ∧l'=setS i ⟨b,o,gM,sh⟩ l):=iP i j hs rfl hx hy hP hc.2.2 hq hc.2.1 hd hc.1
theorem dP {s:au} {l:List au}:nthS 0 (s::l)=some s:=rfl
theorem ae {i:Nat} {s u:au} {l:List au} (h:nthS i l=some s):nthS (i+1) (u::l)=some s:=h
theorem Qz {n:Nat}:n+0=n:=rfl
theorem Qm {n k:Nat}:n+0*k=n:=by rw[Nat.zero_mul];rfl
theorem Js {q o:Nat} (h:Nat.ble o q=true):q=o+(q-o):=by have:=Nat.le_of_ble_eq_true h;omega
theorem Jz {j:Nat}:j=0+j:=(Nat.zero_add j).symm
end
class ko (bo:BinOp) (X Y:Value) (v:outParam Value) (H:outParam Prop):Prop where
  h:H→adq bo X Y v
class Xj (X:Value) (s t:TypeId) (v:outParam Value) (H:outParam Prop):Prop where
  h:H→adr X v s t
class BnW (bo:BinOp) (X Y:Value) (v:outParam Value) (H:outParam Prop):Prop where
  h:H→adq bo X Y v
class CcW (X:Value) (s t:TypeId) (v:outParam Value) (H:outParam Prop):Prop where
  h:H→adr X v s t
instance arF {m n:Nat}:ko .add (.int .u8 ((m:Nat):Int)) (.int .u8 ((n:Nat):Int)) ((.int .u8 ((m+n:Nat):Int))) (m+n≤255):=⟨fun h _ _ _ _ _ _ ho hx hy=>gY m n ho hx hy h⟩
instance arG {m n:Nat}:ko .add (.int .u16 ((m:Nat):Int)) (.int .u16 ((n:Nat):Int)) ((.int .u16 ((m+n:Nat):Int))) (m+n≤65535):=⟨fun h _ _ _ _ _ _ ho hx hy=>Pp m n ho hx hy h⟩
instance arH {m n:Nat}:ko .add (.int .u32 ((m:Nat):Int)) (.int .u32 ((n:Nat):Int)) ((.int .u32 ((m+n:Nat):Int))) (m+n≤4294967295):=⟨fun h _ _ _ _ _ _ ho hx hy=>BS m n ho hx hy h⟩
instance arI {m n:Nat}:ko .add (.int .u64 ((m:Nat):Int)) (.int .u64 ((n:Nat):Int)) ((.int .u64 ((m+n:Nat):Int))) (m+n≤18446744073709551615):=⟨fun h _ _ _ _ _ _ ho hx hy=>acM m n ho hx hy h⟩
instance arJ {m n:Nat}:ko .add (.int .i16 ((m:Nat):Int)) (.int .i16 ((n:Nat):Int)) ((.int .i16 ((m+n:Nat):Int))) (m+n≤32767):=⟨fun h _ _ _ _ _ _ ho hx hy=>ve m n ho hx hy h⟩
instance arK {m n:Nat}:ko .add (.int .i32 ((m:Nat):Int)) (.int .i32 ((n:Nat):Int)) ((.int .i32 ((m+n:Nat):Int))) (m+n≤2147483647):=⟨fun h _ _ _ _ _ _ ho hx hy=>acN m n ho hx hy h⟩
instance arL {m n:Nat}:ko .add (.int .i64 ((m:Nat):Int)) (.int .i64 ((n:Nat):Int)) ((.int .i64 ((m+n:Nat):Int))) (m+n≤9223372036854775807):=⟨fun h _ _ _ _ _ _ ho hx hy=>aE m n ho hx hy h⟩
instance arM {m n:Nat}:BnW .add (.int .u8 ((m:Nat):Int)) (.int .u8 ((n:Nat):Int)) ((.int .u8 (((m+n)%256:Nat):Int))) (True):=⟨fun h _ _ _ _ _ _ ho hx hy=>vf m n ho hx hy⟩
instance arN {m n:Nat}:ko .and (.int .u8 ((m:Nat):Int)) (.int .u8 ((n:Nat):Int)) ((.int .u8 ((m&&&n:Nat):Int))) ((m<256∨n<256)∧m<256∧n<256):=⟨fun h _ _ _ _ _ _ ho hx hy=>fM m n ho hx hy h.1 h.2.1 h.2.2⟩
instance arO {m n:Nat}:ko .and (.int .u64 ((m:Nat):Int)) (.int .u64 ((n:Nat):Int)) ((.int .u64 ((m&&&n:Nat):Int))) ((m<18446744073709551616∨n<18446744073709551616)∧m<18446744073709551616∧n<18446744073709551616):=⟨fun h _ _ _ _ _ _ ho hx hy=>ld m n ho hx hy h.1 h.2.1 h.2.2⟩
instance ads {m n:Nat}:ko .andNot (.int .u64 ((m:Nat):Int)) (.int .u64 ((n:Nat):Int)) ((.int .u64 ((m&&&(18446744073709551615-n):Nat):Int))) (m<18446744073709551616∧n<18446744073709551616):=⟨fun h _ _ _ _ _ _ ho hx hy=>Ld m n ho hx hy h.1 h.2⟩
instance at4 {m:Nat} {s t:TypeId} {D:TypeDesc} {k:IntKind} [cs:kx s D] [ct:kx t (.int .u8)]:Xj (.int k ((m:Nat):Int)) s t ((.int .u8 ((m:Nat):Int))) (m≤255):=⟨fun h _ _ _ ho hx=>ajX m cs.h ct.h ho hx h⟩
instance at5 {m:Nat} {s t:TypeId} {D:TypeDesc} {k:IntKind} [cs:kx s D] [ct:kx t (.int .u16)]:Xj (.int k ((m:Nat):Int)) s t ((.int .u16 ((m:Nat):Int))) (m≤65535):=⟨fun h _ _ _ ho hx=>ZF m cs.h ct.h ho hx h⟩
instance at6 {m:Nat} {s t:TypeId} {D:TypeDesc} {k:IntKind} [cs:kx s D] [ct:kx t (.int .u32)]:Xj (.int k ((m:Nat):Int)) s t ((.int .u32 ((m:Nat):Int))) (m≤4294967295):=⟨fun h _ _ _ ho hx=>ZG m cs.h ct.h ho hx h⟩
instance at7 {m:Nat} {s t:TypeId} {D:TypeDesc} {k:IntKind} [cs:kx s D] [ct:kx t (.int .u64)]:Xj (.int k ((m:Nat):Int)) s t ((.int .u64 ((m:Nat):Int))) (m≤18446744073709551615):=⟨fun h _ _ _ ho hx=>tX m cs.h ct.h ho hx h⟩
instance aua {m:Nat} {s t:TypeId} {D:TypeDesc} {k:IntKind} [cs:kx s D] [ct:kx t (.int .i8)]:Xj (.int k ((m:Nat):Int)) s t ((.int .i8 ((m:Nat):Int))) (m≤127):=⟨fun h _ _ _ ho hx=>ajY m cs.h ct.h ho hx h⟩
instance aub {m:Nat} {s t:TypeId} {D:TypeDesc} {k:IntKind} [cs:kx s D] [ct:kx t (.int .i16)]:Xj (.int k ((m:Nat):Int)) s t ((.int .i16 ((m:Nat):Int))) (m≤32767):=⟨fun h _ _ _ ho hx=>ajZ m cs.h ct.h ho hx h⟩
instance auc {m:Nat} {s t:TypeId} {D:TypeDesc} {k:IntKind} [cs:kx s D] [ct:kx t (.int .i32)]:Xj (.int k ((m:Nat):Int)) s t ((.int .i32 ((m:Nat):Int))) (m≤2147483647):=⟨fun h _ _ _ ho hx=>aj0 m cs.h ct.h ho hx h⟩
instance aud {m:Nat} {s t:TypeId} {D:TypeDesc} {k:IntKind} [cs:kx s D] [ct:kx t (.int .i64)]:Xj (.int k ((m:Nat):Int)) s t ((.int .i64 ((m:Nat):Int))) (m≤9223372036854775807):=⟨fun h _ _ _ ho hx=>JY m cs.h ct.h ho hx h⟩
instance aue {m:Nat} {s t:TypeId} {D:TypeDesc} {k:IntKind} [cs:kx s D] [ct:kx t (.int .u8)]:CcW (.int k ((m:Nat):Int)) s t ((.int .u8 ((m%256:Nat):Int))) (True):=⟨fun h _ _ _ ho hx=>az m cs.h ct.h ho hx⟩
instance auf {m:Nat} {s t:TypeId} {D:TypeDesc} {k:IntKind} [cs:kx s D] [ct:kx t (.int .u16)]:CcW (.int k ((m:Nat):Int)) s t ((.int .u16 ((m%65536:Nat):Int))) (True):=⟨fun h _ _ _ ho hx=>aj1 m cs.h ct.h ho hx⟩
instance aug {m:Nat} {s t:TypeId} {D:TypeDesc} {k:IntKind} [cs:kx s D] [ct:kx t (.int .u32)]:CcW (.int k ((m:Nat):Int)) s t ((.int .u32 ((m%4294967296:Nat):Int))) (True):=⟨fun h _ _ _ ho hx=>aj2 m cs.h ct.h ho hx⟩
instance arP {m n:Nat}:ko .mul (.int .u8 ((m:Nat):Int)) (.int .u8 ((n:Nat):Int)) ((.int .u8 ((m*n:Nat):Int))) (m*n≤255):=⟨fun h _ _ _ _ _ _ ho hx hy=>acO m n ho hx hy h⟩
instance arQ {m n:Nat}:ko .mul (.int .u32 ((m:Nat):Int)) (.int .u32 ((n:Nat):Int)) ((.int .u32 ((m*n:Nat):Int))) (m*n≤4294967295):=⟨fun h _ _ _ _ _ _ ho hx hy=>acP m n ho hx hy h⟩
instance arR {m n:Nat}:ko .mul (.int .u64 ((m:Nat):Int)) (.int .u64 ((n:Nat):Int)) ((.int .u64 ((m*n:Nat):Int))) (m*n≤18446744073709551615):=⟨fun h _ _ _ _ _ _ ho hx hy=>GH m n ho hx hy h⟩
instance arS {m n:Nat}:ko .mul (.int .i16 ((m:Nat):Int)) (.int .i16 ((n:Nat):Int)) ((.int .i16 ((m*n:Nat):Int))) (m*n≤32767):=⟨fun h _ _ _ _ _ _ ho hx hy=>acQ m n ho hx hy h⟩
instance arT {m n:Nat}:ko .mul (.int .i32 ((m:Nat):Int)) (.int .i32 ((n:Nat):Int)) ((.int .i32 ((m*n:Nat):Int))) (m*n≤2147483647):=⟨fun h _ _ _ _ _ _ ho hx hy=>acR m n ho hx hy h⟩
instance arU {m n:Nat}:ko .mul (.int .i64 ((m:Nat):Int)) (.int .i64 ((n:Nat):Int)) ((.int .i64 ((m*n:Nat):Int))) (m*n≤9223372036854775807):=⟨fun h _ _ _ _ _ _ ho hx hy=>ft m n ho hx hy h⟩
instance arV {m n:Nat}:BnW .mul (.int .u32 ((m:Nat):Int)) (.int .u32 ((n:Nat):Int)) ((.int .u32 (((m*n)%4294967296:Nat):Int))) (True):=⟨fun h _ _ _ _ _ _ ho hx hy=>acS m n ho hx hy⟩
instance auh {m n:Nat}:ko .or (.int .u8 ((m:Nat):Int)) (.int .u8 ((n:Nat):Int)) ((.int .u8 ((m|||n:Nat):Int))) (m<256∧n<256):=⟨fun h _ _ _ _ _ _ ho hx hy=>Ef m n ho hx hy h.1 h.2⟩
instance aui {m n:Nat}:ko .or (.int .u32 ((m:Nat):Int)) (.int .u32 ((n:Nat):Int)) ((.int .u32 ((m|||n:Nat):Int))) (m<4294967296∧n<4294967296):=⟨fun h _ _ _ _ _ _ ho hx hy=>JZ m n ho hx hy h.1 h.2⟩
instance auj {m n:Nat}:ko .or (.int .u64 ((m:Nat):Int)) (.int .u64 ((n:Nat):Int)) ((.int .u64 ((m|||n:Nat):Int))) (m<18446744073709551616∧n<18446744073709551616):=⟨fun h _ _ _ _ _ _ ho hx hy=>lF m n ho hx hy h.1 h.2⟩
instance arW {m n:Nat}:ko .quo (.int .u8 ((m:Nat):Int)) (.int .u8 ((n:Nat):Int)) ((.int .u8 ((m/n:Nat):Int))) (0<n∧m≤255):=⟨fun h _ _ _ _ _ _ ho hx hy=>acT m n ho hx hy h.1 h.2⟩
instance arX {m n:Nat}:ko .quo (.int .u32 ((m:Nat):Int)) (.int .u32 ((n:Nat):Int)) ((.int .u32 ((m/n:Nat):Int))) (0<n∧m≤4294967295):=⟨fun h _ _ _ _ _ _ ho hx hy=>Pq m n ho hx hy h.1 h.2⟩
instance arY {m n:Nat}:ko .quo (.int .u64 ((m:Nat):Int)) (.int .u64 ((n:Nat):Int)) ((.int .u64 ((m/n:Nat):Int))) (0<n∧m≤18446744073709551615):=⟨fun h _ _ _ _ _ _ ho hx hy=>GI m n ho hx hy h.1 h.2⟩
instance arZ {m n:Nat}:ko .quo (.int .i64 ((m:Nat):Int)) (.int .i64 ((n:Nat):Int)) ((.int .i64 ((m/n:Nat):Int))) (0<n∧m≤9223372036854775807):=⟨fun h _ _ _ _ _ _ ho hx hy=>rT m n ho hx hy h.1 h.2⟩
instance ar0 {m n:Nat} {k':IntKind}:ko .shl (.int .u8 ((m:Nat):Int)) (.int k' ((n:Nat):Int)) ((.int .u8 ((m*2^n:Nat):Int))) (n≤8∧m*2^n≤255):=⟨fun h _ _ _ _ _ _ ho hx hy=>acU m n ho hx hy h.1 h.2⟩
instance ar1 {m n:Nat} {k':IntKind}:ko .shl (.int .u16 ((m:Nat):Int)) (.int k' ((n:Nat):Int)) ((.int .u16 ((m*2^n:Nat):Int))) (n≤16∧m*2^n≤65535):=⟨fun h _ _ _ _ _ _ ho hx hy=>acV m n ho hx hy h.1 h.2⟩
instance ar2 {m n:Nat} {k':IntKind}:ko .shl (.int .u32 ((m:Nat):Int)) (.int k' ((n:Nat):Int)) ((.int .u32 ((m*2^n:Nat):Int))) (n≤32∧m*2^n≤4294967295):=⟨fun h _ _ _ _ _ _ ho hx hy=>Pr m n ho hx hy h.1 h.2⟩
instance ar3 {m n:Nat} {k':IntKind}:ko .shl (.int .u64 ((m:Nat):Int)) (.int k' ((n:Nat):Int)) ((.int .u64 ((m*2^n:Nat):Int))) (n≤64∧m*2^n≤18446744073709551615):=⟨fun h _ _ _ _ _ _ ho hx hy=>acW m n ho hx hy h.1 h.2⟩
instance ar4 {m n:Nat} {k':IntKind}:ko .shl (.int .i16 ((m:Nat):Int)) (.int k' ((n:Nat):Int)) ((.int .i16 ((m*2^n:Nat):Int))) (n≤16∧m*2^n≤32767):=⟨fun h _ _ _ _ _ _ ho hx hy=>Ps m n ho hx hy h.1 h.2⟩
instance ar5 {m n:Nat} {k':IntKind}:ko .shl (.int .i32 ((m:Nat):Int)) (.int k' ((n:Nat):Int)) ((.int .i32 ((m*2^n:Nat):Int))) (n≤32∧m*2^n≤2147483647):=⟨fun h _ _ _ _ _ _ ho hx hy=>acX m n ho hx hy h.1 h.2⟩
instance ar6 {m n:Nat} {k':IntKind}:ko .shl (.int .i64 ((m:Nat):Int)) (.int k' ((n:Nat):Int)) ((.int .i64 ((m*2^n:Nat):Int))) (n≤64∧m*2^n≤9223372036854775807):=⟨fun h _ _ _ _ _ _ ho hx hy=>vg m n ho hx hy h.1 h.2⟩
instance ar7 {m n:Nat} {k':IntKind}:BnW .shl (.int .u16 ((m:Nat):Int)) (.int k' ((n:Nat):Int)) ((.int .u16 ((m*2^n%65536:Nat):Int))) (True):=⟨fun h _ _ _ _ _ _ ho hx hy=>Pu m n ho hx hy⟩
instance ar8 {m n:Nat} {k':IntKind}:BnW .shl (.int .u64 ((m:Nat):Int)) (.int k' ((n:Nat):Int)) ((.int .u64 ((m*2^n%18446744073709551616:Nat):Int))) (True):=⟨fun h _ _ _ _ _ _ ho hx hy=>ji m n ho hx hy⟩
instance ar9 {m n:Nat} {k':IntKind}:ko .shr (.int .u8 ((m:Nat):Int)) (.int k' ((n:Nat):Int)) ((.int .u8 ((m/2^n:Nat):Int))) (m<256):=⟨fun h _ _ _ _ _ _ ho hx hy=>GJ m n ho hx hy h⟩
instance asa {m n:Nat} {k':IntKind}:ko .shr (.int .u16 ((m:Nat):Int)) (.int k' ((n:Nat):Int)) ((.int .u16 ((m/2^n:Nat):Int))) (m<65536):=⟨fun h _ _ _ _ _ _ ho hx hy=>ax m n ho hx hy h⟩
instance asb {m n:Nat} {k':IntKind}:ko .shr (.int .u32 ((m:Nat):Int)) (.int k' ((n:Nat):Int)) ((.int .u32 ((m/2^n:Nat):Int))) (m<4294967296):=⟨fun h _ _ _ _ _ _ ho hx hy=>rU m n ho hx hy h⟩
instance asc {m n:Nat} {k':IntKind}:ko .shr (.int .u64 ((m:Nat):Int)) (.int k' ((n:Nat):Int)) ((.int .u64 ((m/2^n:Nat):Int))) (m<18446744073709551616):=⟨fun h _ _ _ _ _ _ ho hx hy=>aF m n ho hx hy h⟩
instance asd {m n:Nat} {k':IntKind}:ko .shr (.int .i16 ((m:Nat):Int)) (.int k' ((n:Nat):Int)) ((.int .i16 ((m/2^n:Nat):Int))) (m<65536):=⟨fun h _ _ _ _ _ _ ho hx hy=>acY m n ho hx hy h⟩
instance ase {m n:Nat} {k':IntKind}:ko .shr (.int .i32 ((m:Nat):Int)) (.int k' ((n:Nat):Int)) ((.int .i32 ((m/2^n:Nat):Int))) (m<4294967296):=⟨fun h _ _ _ _ _ _ ho hx hy=>Pv m n ho hx hy h⟩
instance asf {m n:Nat} {k':IntKind}:ko .shr (.int .i64 ((m:Nat):Int)) (.int k' ((n:Nat):Int)) ((.int .i64 ((m/2^n:Nat):Int))) (m<18446744073709551616):=⟨fun h _ _ _ _ _ _ ho hx hy=>GK m n ho hx hy h⟩
instance asg {m n:Nat}:ko .sub (.int .u8 ((m:Nat):Int)) (.int .u8 ((n:Nat):Int)) ((.int .u8 ((m-n:Nat):Int))) (n≤m∧m≤255):=⟨fun h _ _ _ _ _ _ ho hx hy=>xW m n ho hx hy h⟩
instance ash {m n:Nat}:ko .sub (.int .u16 ((m:Nat):Int)) (.int .u16 ((n:Nat):Int)) ((.int .u16 ((m-n:Nat):Int))) (n≤m∧m≤65535):=⟨fun h _ _ _ _ _ _ ho hx hy=>acZ m n ho hx hy h⟩
instance asi {m n:Nat}:ko .sub (.int .u32 ((m:Nat):Int)) (.int .u32 ((n:Nat):Int)) ((.int .u32 ((m-n:Nat):Int))) (n≤m∧m≤4294967295):=⟨fun h _ _ _ _ _ _ ho hx hy=>BU m n ho hx hy h⟩
instance asj {m n:Nat}:ko .sub (.int .u64 ((m:Nat):Int)) (.int .u64 ((n:Nat):Int)) ((.int .u64 ((m-n:Nat):Int))) (n≤m∧m≤18446744073709551615):=⟨fun h _ _ _ _ _ _ ho hx hy=>jj m n ho hx hy h⟩
instance asl {m n:Nat}:ko .sub (.int .i16 ((m:Nat):Int)) (.int .i16 ((n:Nat):Int)) ((.int .i16 ((m-n:Nat):Int))) (n≤m∧m≤32767):=⟨fun h _ _ _ _ _ _ ho hx hy=>BV m n ho hx hy h⟩
instance asm {m n:Nat}:ko .sub (.int .i32 ((m:Nat):Int)) (.int .i32 ((n:Nat):Int)) ((.int .i32 ((m-n:Nat):Int))) (n≤m∧m≤2147483647):=⟨fun h _ _ _ _ _ _ ho hx hy=>ac0 m n ho hx hy h⟩
instance asn {m n:Nat}:ko .sub (.int .i64 ((m:Nat):Int)) (.int .i64 ((n:Nat):Int)) ((.int .i64 ((m-n:Nat):Int))) (n≤m∧m≤9223372036854775807):=⟨fun h _ _ _ _ _ _ ho hx hy=>rV m n ho hx hy h⟩
instance aso {m n:Nat}:BnW .sub (.int .u8 ((m:Nat):Int)) (.int .u8 ((n:Nat):Int)) ((.int .u8 (((m+256-n)%256:Nat):Int))) (n≤256):=⟨fun h _ _ _ _ _ _ ho hx hy=>ac1 m n ho hx hy h⟩
instance asq {m n:Nat}:BnW .sub (.int .u32 ((m:Nat):Int)) (.int .u32 ((n:Nat):Int)) ((.int .u32 (((m+4294967296-n)%4294967296:Nat):Int))) (n≤4294967296):=⟨fun h _ _ _ _ _ _ ho hx hy=>ac2 m n ho hx hy h⟩
instance aCC {m n:Nat} {k:IntKind}:ko .lss (.int k ((m:Nat):Int)) (.int k ((n:Nat):Int)) (.bool (decide (((m:Nat):Int)<((n:Nat):Int)))) True:=⟨fun _ _ _ _ _ _ _ ho hx hy=>rS m n ho hx hy⟩
instance aCD {m n:Nat} {k:IntKind}:ko .leq (.int k ((m:Nat):Int)) (.int k ((n:Nat):Int)) (.bool (decide (((m:Nat):Int)≤((n:Nat):Int)))) True:=⟨fun _ _ _ _ _ _ _ ho hx hy=>Zle m n ho hx hy⟩
instance aCE {m n:Nat} {k:IntKind}:ko .gtr (.int k ((m:Nat):Int)) (.int k ((n:Nat):Int)) (.bool (decide (((n:Nat):Int)<((m:Nat):Int)))) True:=⟨fun _ _ _ _ _ _ _ ho hx hy=>BQ m n ho hx hy⟩
instance aCF {m n:Nat} {k:IntKind}:ko .geq (.int k ((m:Nat):Int)) (.int k ((n:Nat):Int)) (.bool (decide (((n:Nat):Int)≤((m:Nat):Int)))) True:=⟨fun _ _ _ _ _ _ _ ho hx hy=>uA m n ho hx hy⟩
instance aCG {m n:Nat} {k:IntKind}:ko .eql (.int k ((m:Nat):Int)) (.int k ((n:Nat):Int)) (.bool (decide (((m:Nat):Int)=((n:Nat):Int)))) True:=⟨fun _ _ _ _ _ _ _ ho hx hy=>JX m n ho hx hy⟩
instance aCH {m n:Nat} {k:IntKind}:ko .neq (.int k ((m:Nat):Int)) (.int k ((n:Nat):Int)) (.bool (decide (((m:Nat):Int)≠((n:Nat):Int)))) True:=⟨fun _ _ _ _ _ _ _ ho hx hy=>Ee m n ho hx hy⟩
theorem Tot {p:Prop} (h:p:=by first|omega|trivial):p:=h
theorem Tbv {p:Prop} (h:p:=by first|exact ko.h Tot|exact BnW.h Tot):p:=h
theorem Tcv {p:Prop} (h:p:=by first|exact Xj.h Tot|exact CcW.h Tot):p:=h
theorem Wy {ρ:aC} {o:Oper} {v:Value} (h:aG Tryz.prog ρ o v:=by first|((with_reducible apply Ofa);exact rfl;exact Tfo)|((with_reducible apply at0);exact zt;exact zt;exact Tbv)|((with_reducible apply at1);exact zt;exact Tcv)|((with_reducible apply atW);exact rfl;exact rfl;exact rfl;exact Xh)|((with_reducible apply Oix);exact rfl;exact zt;exact Tse;omega;(first|with_reducible exact Nat.zero_add _|with_reducible exact Qz|with_reducible exact Nat.add_assoc _ _ _|exact rfl))|((with_reducible apply at2);exact rfl;exact zt;exact Tae;omega;(first|with_reducible exact Nat.zero_add _|with_reducible exact Qz|with_reducible exact Nat.add_assoc _ _ _|exact rfl))|((with_reducible apply Oia);exact rfl;exact zt;exact Tae;omega;(first|with_reducible exact Qm|with_reducible exact Nat.zero_add _|with_reducible exact Nat.add_assoc _ _ _|exact rfl))|((with_reducible apply atX);exact rfl;exact rfl;exact rfl;exact Xh)|((with_reducible apply Obo);first|exact df rfl rfl Xh|exact xg rfl rfl Xh|exact FV rfl rfl Xh|exact FU rfl rfl Xh|exact KG rfl rfl Xh|exact KF rfl rfl Xh)|((with_reducible apply Omi);exact abF rfl rfl Xh rfl)|((with_reducible apply Osl);first|exact qV rfl rfl zt Tse Tom|exact abC rfl rfl zt Tae Tom)|((with_reducible apply Oun);first|exact MH rfl rfl|exact FR rfl rfl)):aG Tryz.prog ρ o v:=h
theorem Wr {ρ:aC} {l r:List au} {o:Oper} {v:Value} (h:nN Tryz.prog ρ l r o v:=by first|((with_reducible apply Old);exact rfl;first|(exact dP;(first|with_reducible exact rfl|with_reducible exact Jz|exact rfl|(apply Js;exact rfl));(first|((with_reducible apply aZ.aa);(first|omega|(simp;omega)|simp))|((with_reducible apply aZ.ints);omega)|((with_reducible apply aZ.lit);exact rfl));exact Tag)|(exact ae (dP);(first|with_reducible exact rfl|with_reducible exact Jz|exact rfl|(apply Js;exact rfl));(first|((with_reducible apply aZ.aa);(first|omega|(simp;omega)|simp))|((with_reducible apply aZ.ints);omega)|((with_reducible apply aZ.lit);exact rfl));exact Tag)|(exact ae (ae (dP));(first|with_reducible exact rfl|with_reducible exact Jz|exact rfl|(apply Js;exact rfl));(first|((with_reducible apply aZ.aa);(first|omega|(simp;omega)|simp))|((with_reducible apply aZ.ints);omega)|((with_reducible apply aZ.lit);exact rfl));exact Tag)|(exact ae (ae (ae (dP)));(first|with_reducible exact rfl|with_reducible exact Jz|exact rfl|(apply Js;exact rfl));(first|((with_reducible apply aZ.aa);(first|omega|(simp;omega)|simp))|((with_reducible apply aZ.ints);omega)|((with_reducible apply aZ.lit);exact rfl));exact Tag)|(exact ae (ae (ae (ae (dP))));(first|with_reducible exact rfl|with_reducible exact Jz|exact rfl|(apply Js;exact rfl));(first|((with_reducible apply aZ.aa);(first|omega|(simp;omega)|simp))|((with_reducible apply aZ.ints);omega)|((with_reducible apply aZ.lit);exact rfl));exact Tag)|(exact ae (ae (ae (ae (ae (dP)))));(first|with_reducible exact rfl|with_reducible exact Jz|exact rfl|(apply Js;exact rfl));(first|((with_reducible apply aZ.aa);(first|omega|(simp;omega)|simp))|((with_reducible apply aZ.ints);omega)|((with_reducible apply aZ.lit);exact rfl));exact Tag)|(exact ae (ae (ae (ae (ae (ae (dP))))));(first|with_reducible exact rfl|with_reducible exact Jz|exact rfl|(apply Js;exact rfl));(first|((with_reducible apply aZ.aa);(first|omega|(simp;omega)|simp))|((with_reducible apply aZ.ints);omega)|((with_reducible apply aZ.lit);exact rfl));exact Tag)|(exact ae (ae (ae (ae (ae (ae (ae (dP)))))));(first|with_reducible exact rfl|with_reducible exact Jz|exact rfl|(apply Js;exact rfl));(first|((with_reducible apply aZ.aa);(first|omega|(simp;omega)|simp))|((with_reducible apply aZ.ints);omega)|((with_reducible apply aZ.lit);exact rfl));exact Tag)|(exact ae (ae (ae (ae (ae (ae (ae (ae (dP))))))));(first|with_reducible exact rfl|with_reducible exact Jz|exact rfl|(apply Js;exact rfl));(first|((with_reducible apply aZ.aa);(first|omega|(simp;omega)|simp))|((with_reducible apply aZ.ints);omega)|((with_reducible apply aZ.lit);exact rfl));exact Tag)|(exact ae (ae (ae (ae (ae (ae (ae (ae (ae (dP)))))))));(first|with_reducible exact rfl|with_reducible exact Jz|exact rfl|(apply Js;exact rfl));(first|((with_reducible apply aZ.aa);(first|omega|(simp;omega)|simp))|((with_reducible apply aZ.ints);omega)|((with_reducible apply aZ.lit);exact rfl));exact Tag)|(exact ae (ae (ae (ae (ae (ae (ae (ae (ae (ae (dP))))))))));(first|with_reducible exact rfl|with_reducible exact Jz|exact rfl|(apply Js;exact rfl));(first|((with_reducible apply aZ.aa);(first|omega|(simp;omega)|simp))|((with_reducible apply aZ.ints);omega)|((with_reducible apply aZ.lit);exact rfl));exact Tag)|(exact ae (ae (ae (ae (ae (ae (ae (ae (ae (ae (ae (dP)))))))))));(first|with_reducible exact rfl|with_reducible exact Jz|exact rfl|(apply Js;exact rfl));(first|((with_reducible apply aZ.aa);(first|omega|(simp;omega)|simp))|((with_reducible apply aZ.ints);omega)|((with_reducible apply aZ.lit);exact rfl));exact Tag)|(exact ae (ae (ae (ae (ae (ae (ae (ae (ae (ae (ae (ae (dP))))))))))));(first|with_reducible exact rfl|with_reducible exact Jz|exact rfl|(apply Js;exact rfl));(first|((with_reducible apply aZ.aa);(first|omega|(simp;omega)|simp))|((with_reducible apply aZ.ints);omega)|((with_reducible apply aZ.lit);exact rfl));exact Tag))|((with_reducible apply at3);exact rfl;first|(exact dP;(first|with_reducible exact rfl|with_reducible exact Jz|exact rfl|(apply Js;exact rfl));(first|((with_reducible apply aZ.aa);(first|omega|(simp;omega)|simp))|((with_reducible apply aZ.ints);omega)|((with_reducible apply aZ.lit);exact rfl));exact Tag)|(exact ae (dP);(first|with_reducible exact rfl|with_reducible exact Jz|exact rfl|(apply Js;exact rfl));(first|((with_reducible apply aZ.aa);(first|omega|(simp;omega)|simp))|((with_reducible apply aZ.ints);omega)|((with_reducible apply aZ.lit);exact rfl));exact Tag)|(exact ae (ae (dP));(first|with_reducible exact rfl|with_reducible exact Jz|exact rfl|(apply Js;exact rfl));(first|((with_reducible apply aZ.aa);(first|omega|(simp;omega)|simp))|((with_reducible apply aZ.ints);omega)|((with_reducible apply aZ.lit);exact rfl));exact Tag)|(exact ae (ae (ae (dP)));(first|with_reducible exact rfl|with_reducible exact Jz|exact rfl|(apply Js;exact rfl));(first|((with_reducible apply aZ.aa);(first|omega|(simp;omega)|simp))|((with_reducible apply aZ.ints);omega)|((with_reducible apply aZ.lit);exact rfl));exact Tag)|(exact ae (ae (ae (ae (dP))));(first|with_reducible exact rfl|with_reducible exact Jz|exact rfl|(apply Js;exact rfl));(first|((with_reducible apply aZ.aa);(first|omega|(simp;omega)|simp))|((with_reducible apply aZ.ints);omega)|((with_reducible apply aZ.lit);exact rfl));exact Tag)|(exact ae (ae (ae (ae (ae (dP)))));(first|with_reducible exact rfl|with_reducible exact Jz|exact rfl|(apply Js;exact rfl));(first|((with_reducible apply aZ.aa);(first|omega|(simp;omega)|simp))|((with_reducible apply aZ.ints);omega)|((with_reducible apply aZ.lit);exact rfl));exact Tag)|(exact ae (ae (ae (ae (ae (ae (dP))))));(first|with_reducible exact rfl|with_reducible exact Jz|exact rfl|(apply Js;exact rfl));(first|((with_reducible apply aZ.aa);(first|omega|(simp;omega)|simp))|((with_reducible apply aZ.ints);omega)|((with_reducible apply aZ.lit);exact rfl));exact Tag)|(exact ae (ae (ae (ae (ae (ae (ae (dP)))))));(first|with_reducible exact rfl|with_reducible exact Jz|exact rfl|(apply Js;exact rfl));(first|((with_reducible apply aZ.aa);(first|omega|(simp;omega)|simp))|((with_reducible apply aZ.ints);omega)|((with_reducible apply aZ.lit);exact rfl));exact Tag)|(exact ae (ae (ae (ae (ae (ae (ae (ae (dP))))))));(first|with_reducible exact rfl|with_reducible exact Jz|exact rfl|(apply Js;exact rfl));(first|((with_reducible apply aZ.aa);(first|omega|(simp;omega)|simp))|((with_reducible apply aZ.ints);omega)|((with_reducible apply aZ.lit);exact rfl));exact Tag)|(exact ae (ae (ae (ae (ae (ae (ae (ae (ae (dP)))))))));(first|with_reducible exact rfl|with_reducible exact Jz|exact rfl|(apply Js;exact rfl));(first|((with_reducible apply aZ.aa);(first|omega|(simp;omega)|simp))|((with_reducible apply aZ.ints);omega)|((with_reducible apply aZ.lit);exact rfl));exact Tag))):nN Tryz.prog ρ l r o v:=h
theorem We {K:Kx} {ρ X:aC} {l r Y:List au} {o:Oper} (h:kB Tryz.prog K ρ l r o (fun ρ' l'=>ρ'=X∧l'=Y):=by first|((with_reducible apply Ost);exact rfl;first|(exact dP;(first|with_reducible exact rfl|with_reducible exact Jz|exact rfl|(apply Js;exact rfl));exact zt;(first|((with_reducible apply cY.aa);(first|omega|(simp;omega)|simp))|((with_reducible apply cY.ints);(first|omega|(simp;omega)|simp))|((with_reducible apply cY.lit);exact rfl;exact rfl));exact rfl;exact Lj)|(exact ae (dP);(first|with_reducible exact rfl|with_reducible exact Jz|exact rfl|(apply Js;exact rfl));exact zt;(first|((with_reducible apply cY.aa);(first|omega|(simp;omega)|simp))|((with_reducible apply cY.ints);(first|omega|(simp;omega)|simp))|((with_reducible apply cY.lit);exact rfl;exact rfl));exact rfl;exact Lj)|(exact ae (ae (dP));(first|with_reducible exact rfl|with_reducible exact Jz|exact rfl|(apply Js;exact rfl));exact zt;(first|((with_reducible apply cY.aa);(first|omega|(simp;omega)|simp))|((with_reducible apply cY.ints);(first|omega|(simp;omega)|simp))|((with_reducible apply cY.lit);exact rfl;exact rfl));exact rfl;exact Lj)|(exact ae (ae (ae (dP)));(first|with_reducible exact rfl|with_reducible exact Jz|exact rfl|(apply Js;exact rfl));exact zt;(first|((with_reducible apply cY.aa);(first|omega|(simp;omega)|simp))|((with_reducible apply cY.ints);(first|omega|(simp;omega)|simp))|((with_reducible apply cY.lit);exact rfl;exact rfl));exact rfl;exact Lj)|(exact ae (ae (ae (ae (dP))));(first|with_reducible exact rfl|with_reducible exact Jz|exact rfl|(apply Js;exact rfl));exact zt;(first|((with_reducible apply cY.aa);(first|omega|(simp;omega)|simp))|((with_reducible apply cY.ints);(first|omega|(simp;omega)|simp))|((with_reducible apply cY.lit);exact rfl;exact rfl));exact rfl;exact Lj)|(exact ae (ae (ae (ae (ae (dP)))));(first|with_reducible exact rfl|with_reducible exact Jz|exact rfl|(apply Js;exact rfl));exact zt;(first|((with_reducible apply cY.aa);(first|omega|(simp;omega)|simp))|((with_reducible apply cY.ints);(first|omega|(simp;omega)|simp))|((with_reducible apply cY.lit);exact rfl;exact rfl));exact rfl;exact Lj)|(exact ae (ae (ae (ae (ae (ae (dP))))));(first|with_reducible exact rfl|with_reducible exact Jz|exact rfl|(apply Js;exact rfl));exact zt;(first|((with_reducible apply cY.aa);(first|omega|(simp;omega)|simp))|((with_reducible apply cY.ints);(first|omega|(simp;omega)|simp))|((with_reducible apply cY.lit);exact rfl;exact rfl));exact rfl;exact Lj)|(exact ae (ae (ae (ae (ae (ae (ae (dP)))))));(first|with_reducible exact rfl|with_reducible exact Jz|exact rfl|(apply Js;exact rfl));exact zt;(first|((with_reducible apply cY.aa);(first|omega|(simp;omega)|simp))|((with_reducible apply cY.ints);(first|omega|(simp;omega)|simp))|((with_reducible apply cY.lit);exact rfl;exact rfl));exact rfl;exact Lj)|(exact ae (ae (ae (ae (ae (ae (ae (ae (dP))))))));(first|with_reducible exact rfl|with_reducible exact Jz|exact rfl|(apply Js;exact rfl));exact zt;(first|((with_reducible apply cY.aa);(first|omega|(simp;omega)|simp))|((with_reducible apply cY.ints);(first|omega|(simp;omega)|simp))|((with_reducible apply cY.lit);exact rfl;exact rfl));exact rfl;exact Lj)|(exact ae (ae (ae (ae (ae (ae (ae (ae (ae (dP)))))))));(first|with_reducible exact rfl|with_reducible exact Jz|exact rfl|(apply Js;exact rfl));exact zt;(first|((with_reducible apply cY.aa);(first|omega|(simp;omega)|simp))|((with_reducible apply cY.ints);(first|omega|(simp;omega)|simp))|((with_reducible apply cY.lit);exact rfl;exact rfl));exact rfl;exact Lj)|(exact ae (ae (ae (ae (ae (ae (ae (ae (ae (ae (dP))))))))));(first|with_reducible exact rfl|with_reducible exact Jz|exact rfl|(apply Js;exact rfl));exact zt;(first|((with_reducible apply cY.aa);(first|omega|(simp;omega)|simp))|((with_reducible apply cY.ints);(first|omega|(simp;omega)|simp))|((with_reducible apply cY.lit);exact rfl;exact rfl));exact rfl;exact Lj)|(exact ae (ae (ae (ae (ae (ae (ae (ae (ae (ae (ae (dP)))))))))));(first|with_reducible exact rfl|with_reducible exact Jz|exact rfl|(apply Js;exact rfl));exact zt;(first|((with_reducible apply cY.aa);(first|omega|(simp;omega)|simp))|((with_reducible apply cY.ints);(first|omega|(simp;omega)|simp))|((with_reducible apply cY.lit);exact rfl;exact rfl));exact rfl;exact Lj)|(exact ae (ae (ae (ae (ae (ae (ae (ae (ae (ae (ae (ae (dP))))))))))));(first|with_reducible exact rfl|with_reducible exact Jz|exact rfl|(apply Js;exact rfl));exact zt;(first|((with_reducible apply cY.aa);(first|omega|(simp;omega)|simp))|((with_reducible apply cY.ints);(first|omega|(simp;omega)|simp))|((with_reducible apply cY.lit);exact rfl;exact rfl));exact rfl;exact Lj))):kB Tryz.prog K ρ l r o (fun ρ' l'=>ρ'=X∧l'=Y):=h
section
variable {P:Program} {K:Kx} {Q:Exit→Act→World→Prop} {ρ:aC} {l r:List au} {x y:Code} {c:Operand} {p:Prop} [Decidable p] {id id':Nat}
theorem Gct (hc:ev ρ c=some (.bool true)):bY (G P K Q x ρ l r) (G P K Q (.cond c x y) ρ l r):=G.aiY hc
theorem Gcf (hc:ev ρ c=some (.bool false)):bY (G P K Q y ρ l r) (G P K Q (.cond c x y) ρ l r):=G.gC hc
theorem Gdt (hc:ev ρ c=some (.bool (decide p))) (hp:p):bY (G P K Q x ρ l r) (G P K Q (.cond c x y) ρ l r):=G.ix hc hp
theorem Gdf (hc:ev ρ c=some (.bool (decide p))) (hp:¬p):bY (G P K Q y ρ l r) (G P K Q (.cond c x y) ρ l r):=G.eK hc hp
theorem Isq:bY (G P K (Exit.then (y.wp P Q) Q) x ρ l r) (G P K Q (.seq x y) ρ l r):=G.seq
theorem Ibl:bY (G P K (Exit.inBlock id Q) x ρ l r) (G P K Q (.block id x) ρ l r):=G.block
theorem Isk:bY (GQ K Q .normal ρ l r) (G P K Q .skip ρ l r):=G.skip
theorem Itn:bY (G P K Q y ρ l r) (GQ K (Exit.then (y.wp P Q) Q) .normal ρ l r):=GQ.aW
theorem Ite {X:Act→World→Prop}:bY (GQ K Q (.exit id) ρ l r) (GQ K (Exit.then X Q) (.exit id) ρ l r):=GQ.c8
theorem Ibn:bY (GQ K Q .normal ρ l r) (GQ K (Exit.inBlock id Q) .normal ρ l r):=GQ.dL
theorem Ibe:bY (GQ K Q .normal ρ l r) (GQ K (Exit.inBlock id Q) (.exit id) ρ l r):=GQ.eL
theorem Iex:bY (GQ K Q (.exit id) ρ l r) (G P K Q (.exit id) ρ l r):=G.exit
theorem Irt:bY (GQ K Q .ret ρ l r) (G P K Q .ret ρ l r):=G.ret
theorem Iln {L:List Oper}:bY (GQ K Q .normal ρ l r) (GL P K Q L [] ρ l r):=GL.nil
theorem Ipn {L:List Oper}:bY (GQ K Q .normal ρ l r) (GP P K Q L [] ρ l r):=GP.nil
theorem Ign {L:List Oper}:bY (GQ K Q .normal ρ l r) (GT P K Q L .nil ρ l r):=GT.nil
theorem Izn {L:List Oper}:bY (G P K Q y ρ l r) (GL P K (Exit.then (y.wp P Q) Q) L [] ρ l r):=Zn
theorem Iz4 {L:List Oper}:bY (G P K (Exit.then (y.wp P Q) Q) x ρ l r) (GL P K (Exit.then ((Code.seq x y).wp P Q) Q) L [] ρ l r):=bM
theorem Iz7:bY (G P K Q y ρ l r) (G P K (Exit.then (y.wp P Q) Q) .skip ρ l r):=gT
theorem Gbo (v9:Nat.beq id' id=false):bY (GQ K Q (.exit id') ρ l r) (GQ K (Exit.inBlock id Q) (.exit id') ρ l r):=GQ.FP v9
end
section
variable {P:Program} {K:Kx} {Q:Exit→Act→World→Prop} {ρ ρ':aC} {l r:List au} {x:Code} {e:Exit} {k:Prop} {L rest cE:List Oper} {o:Oper} {os:List (Nat × Kd)} {pl:Pl}
theorem Dq (h:bY k (GQ K Q e ρ l r)):bY k (GQ K Q e ρ l r):=h
theorem Dg (h:bY k (G P K Q x ρ l r)):bY k (G P K Q x ρ l r):=h
theorem Dn (h:bY k (GL P K Q L [] ρ l r)):bY k (GL P K Q L [] ρ l r):=h
theorem Dc (h:bY k (GL P K Q L (o::rest) ρ l r)):bY k (GL P K Q L (o::rest) ρ l r):=h
theorem Dp (h:bY k (GP P K Q L os ρ l r)):bY k (GP P K Q L os ρ l r):=h
theorem Dt (h:bY k (GT P K Q L pl ρ l r)):bY k (GT P K Q L pl ρ l r):=h
variable {D:Option Tmp} {ty bN T t s f n m b q i j a:Nat} {y z:Operand} {A:String} {B:Array Edge} {C:Option (Nat × Bool)} {v:Value} {cs gM:List Value} {sh:Option (TypeId × Nat)}
theorem Lfa (hx:ev ρ y=some (.pointer (some ⟨b,q,none⟩))) (hP:fieldOff Tryz.prog s f=some n) (hs:advY L K.n ⟨D,.fieldAddr s y f,T,A,B,C⟩ (.pointer (some ⟨b,q+n,none⟩)) rest ρ=some (cE,ρ')):bY (GL Tryz.prog K Q L cE ρ' l r) (GL Tryz.prog K Q L (⟨D,.fieldAddr s y f,T,A,B,C⟩::rest) ρ l r):=Yyn (Ofa hx hP) hs
theorem Lld (h:nN Tryz.prog ρ l r ⟨D,.load t y,T,A,B,C⟩ v) (hs:advY L K.n ⟨D,.load t y,T,A,B,C⟩ v rest ρ=some (cE,ρ')):bY (GL Tryz.prog K Q L cE ρ' l r) (GL Tryz.prog K Q L (⟨D,.load t y,T,A,B,C⟩::rest) ρ l r):=Yrn h hs
theorem Lso {X:aC} {Y:List au} (h:kB Tryz.prog K ρ l r ⟨D,.store t y z,T,A,B,C⟩ (fun ρ' l'=>ρ'=X∧l'=Y)) (hw:want L ρ ⟨D,.store t y z,T,A,B,C⟩=some true) (hs:adv L K.n rest X=some (cE,ρ')):bY (GL Tryz.prog K Q L cE ρ' Y r) (GL Tryz.prog K Q L (⟨D,.store t y z,T,A,B,C⟩::rest) ρ l r):=Ysn h hw hs
end
theorem S1 {k g:Prop} (h:bY k g:=by first|((with_reducible apply Dc);first|((with_reducible apply Lfa);exact rfl;exact Tfo;exact rfl)|((with_reducible apply Lld);exact Wr;exact rfl)|((with_reducible apply Lso);exact We;exact rfl;exact rfl)|((with_reducible apply Yyn);exact Wy;exact rfl)|exact bY.of Ya)|((with_reducible apply Dq);first|((with_reducible apply Itn))|((with_reducible apply Ite))|((with_reducible apply Ibn))|((with_reducible apply Ibe))|((with_reducible apply Gbo);exact rfl))|((with_reducible apply Dn);first|((with_reducible apply Y3n);exact rfl)|((with_reducible apply Y2n);exact rfl)|((with_reducible apply Iz4))|((with_reducible apply Y1n);exact rfl)|((with_reducible apply Izn))|((with_reducible apply Iln)))|((with_reducible apply Dg);first|((with_reducible apply Y6n);exact rfl)|((with_reducible apply Y5n);exact rfl)|((with_reducible apply YGn);exact rfl)|((with_reducible apply Isq))|((with_reducible apply Ibl))|((with_reducible apply Y8n);exact rfl)|((with_reducible apply Iz7))|((with_reducible apply Isk))|((with_reducible apply Irt))|((with_reducible apply Iex))|((with_reducible apply Gct);exact rfl)|((with_reducible apply Gcf);exact rfl)|((with_reducible apply Gdt);exact rfl;decide)|((with_reducible apply Gdf);exact rfl;decide))|((with_reducible apply Dp);first|((with_reducible apply atO);exact rfl;exact Wy;exact rfl)|((with_reducible apply atP);exact rfl;exact Wr;exact rfl)|((with_reducible apply atQ);exact rfl;exact We;exact rfl;exact rfl)|((with_reducible apply Ipn))|exact bY.of wN)|((with_reducible apply Dt);first|((with_reducible apply atS);exact rfl;exact Wy;exact rfl)|((with_reducible apply atT);exact rfl;exact Wr;exact rfl)|((with_reducible apply atU);exact rfl;exact We;exact rfl;exact rfl)|((with_reducible apply atV);exact rfl;exact Wr;exact rfl)|((with_reducible apply Ign))|exact bY.of Yta)):bY k g:=h
theorem S2 {k g:Prop} (h:bY k g:=by exact bY.trans S1 S1):bY k g:=h
theorem S3 {k g:Prop} (h:bY k g:=by exact bY.trans S1 S2):bY k g:=h
theorem S4 {k g:Prop} (h:bY k g:=by exact bY.trans S2 S2):bY k g:=h
theorem S5 {k g:Prop} (h:bY k g:=by exact bY.trans S2 S3):bY k g:=h
theorem S6 {k g:Prop} (h:bY k g:=by exact bY.trans S3 S3):bY k g:=h
theorem S7 {k g:Prop} (h:bY k g:=by exact bY.trans S3 S4):bY k g:=h
theorem S8 {k g:Prop} (h:bY k g:=by exact bY.trans S4 S4):bY k g:=h
theorem S9 {k g:Prop} (h:bY k g:=by exact bY.trans S4 S5):bY k g:=h
theorem S10 {k g:Prop} (h:bY k g:=by exact bY.trans S5 S5):bY k g:=h
theorem S11 {k g:Prop} (h:bY k g:=by exact bY.trans S5 S6):bY k g:=h
theorem S12 {k g:Prop} (h:bY k g:=by exact bY.trans S6 S6):bY k g:=h
theorem S13 {k g:Prop} (h:bY k g:=by exact bY.trans S6 S7):bY k g:=h
theorem S14 {k g:Prop} (h:bY k g:=by exact bY.trans S7 S7):bY k g:=h
theorem S15 {k g:Prop} (h:bY k g:=by exact bY.trans S7 S8):bY k g:=h
theorem S16 {k g:Prop} (h:bY k g:=by exact bY.trans S8 S8):bY k g:=h
theorem S17 {k g:Prop} (h:bY k g:=by exact bY.trans S8 S9):bY k g:=h
theorem S18 {k g:Prop} (h:bY k g:=by exact bY.trans S9 S9):bY k g:=h
theorem S19 {k g:Prop} (h:bY k g:=by exact bY.trans S9 S10):bY k g:=h
theorem S20 {k g:Prop} (h:bY k g:=by exact bY.trans S10 S10):bY k g:=h
theorem S21 {k g:Prop} (h:bY k g:=by exact bY.trans S10 S11):bY k g:=h
theorem S23 {k g:Prop} (h:bY k g:=by exact bY.trans S11 S12):bY k g:=h
theorem S24 {k g:Prop} (h:bY k g:=by exact bY.trans S12 S12):bY k g:=h
theorem S26 {k g:Prop} (h:bY k g:=by exact bY.trans S13 S13):bY k g:=h
theorem S27 {k g:Prop} (h:bY k g:=by exact bY.trans S13 S14):bY k g:=h
theorem S28 {k g:Prop} (h:bY k g:=by exact bY.trans S14 S14):bY k g:=h
theorem S31 {k g:Prop} (h:bY k g:=by exact bY.trans S15 S16):bY k g:=h
theorem S32 {k g:Prop} (h:bY k g:=by exact bY.trans S16 S16):bY k g:=h
theorem S33 {k g:Prop} (h:bY k g:=by exact bY.trans S16 S17):bY k g:=h
theorem S34 {k g:Prop} (h:bY k g:=by exact bY.trans S17 S17):bY k g:=h
theorem S35 {k g:Prop} (h:bY k g:=by exact bY.trans S17 S18):bY k g:=h
theorem A1 {g k:Prop} (k':k) (h:bY k g:=by exact S1):g:=h k'
theorem A2 {g k:Prop} (k':k) (h:bY k g:=by exact S2):g:=h k'
theorem A3 {g k:Prop} (k':k) (h:bY k g:=by exact S3):g:=h k'
theorem A4 {g k:Prop} (k':k) (h:bY k g:=by exact S4):g:=h k'
theorem A5 {g k:Prop} (k':k) (h:bY k g:=by exact S5):g:=h k'
theorem A6 {g k:Prop} (k':k) (h:bY k g:=by exact S6):g:=h k'
theorem A7 {g k:Prop} (k':k) (h:bY k g:=by exact S7):g:=h k'
theorem A8 {g k:Prop} (k':k) (h:bY k g:=by exact S8):g:=h k'
theorem A9 {g k:Prop} (k':k) (h:bY k g:=by exact S9):g:=h k'
theorem CK {g k:Prop} (k':k) (h:bY k g:=by exact S10):g:=h k'
theorem vR {g k:Prop} (k':k) (h:bY k g:=by exact S11):g:=h k'
theorem FG {g k:Prop} (k':k) (h:bY k g:=by exact S12):g:=h k'
theorem A13 {g k:Prop} (k':k) (h:bY k g:=by exact S13):g:=h k'
theorem Mg {g k:Prop} (k':k) (h:bY k g:=by exact S14):g:=h k'
theorem Lk {g k:Prop} (k':k) (h:bY k g:=by exact S15):g:=h k'
theorem Xk {g k:Prop} (k':k) (h:bY k g:=by exact S16):g:=h k'
theorem A17 {g k:Prop} (k':k) (h:bY k g:=by exact S17):g:=h k'
theorem A18 {g k:Prop} (k':k) (h:bY k g:=by exact S18):g:=h k'
theorem A19 {g k:Prop} (k':k) (h:bY k g:=by exact S19):g:=h k'
theorem ZO {g k:Prop} (k':k) (h:bY k g:=by exact S20):g:=h k'
theorem A21 {g k:Prop} (k':k) (h:bY k g:=by exact S21):g:=h k'
theorem A23 {g k:Prop} (k':k) (h:bY k g:=by exact S23):g:=h k'
theorem A24 {g k:Prop} (k':k) (h:bY k g:=by exact S24):g:=h k'
theorem A26 {g k:Prop} (k':k) (h:bY k g:=by exact S26):g:=h k'
theorem A27 {g k:Prop} (k':k) (h:bY k g:=by exact S27):g:=h k'
theorem A28 {g k:Prop} (k':k) (h:bY k g:=by exact S28):g:=h k'
theorem A31 {g k:Prop} (k':k) (h:bY k g:=by exact S31):g:=h k'
theorem A33 {g k:Prop} (k':k) (h:bY k g:=by exact S33):g:=h k'
theorem Xl {g k:Prop} (k':k) (h:bY k g:=by exact S34):g:=h k'
theorem A35 {g k:Prop} (k':k) (h:bY k g:=by exact S35):g:=h k'
end Go.Proofs.YtekcchgffhphbaaGreatDoor
namespace Go.Proofs.YtekcchgffhphbaaGreatDoor
open Go Tryz
theorem PS:fieldOff0 prog 71 21 71=some 279:=Kr
end Go.Proofs.YtekcchgffhphbaaGreatDoor
