/- Walks (printed by a program of my own). -/
import Derived.Test.YtplgbfkpeampgaaGreatDoorQ2
set_option linter.unusedVariables false
set_option linter.unusedSimpArgs false
set_option maxRecDepth 100000
namespace Go.Proofs.YtplgbfkpeampgaaGreatDoor
open Go
def regOf (id:Nat):Code→Option (Array Oper)
  | .region i ops _=>bif Nat.beq i id then some ops else none
  | .seq a b=>match regOf id a with
    |some r=>some r
    |none=>regOf id b
  | .cond _ a b=>match regOf id a with
    |some r=>some r
    |none=>regOf id b
  | .block _ a=>regOf id a
  | .loop a=>regOf id a
  |_=>none
def findR (P:Program) (f id:Nat):Option (Array Oper):=match P.funcs[f]? with
  |some fn=>match fn.body with
    |some c=>regOf id c
    |none=>none
  |none=>none
theorem At.fram {K:Kx} {ρ ρ':Fram} {l r:List Seg} {a:Act} {w:World} (h:At K ρ l r a w) (hf:FrOK ρ' a):At K ρ' l r a w:=⟨h.size,h.defers,hf,h.keeps,h.st,h.own⟩
theorem G.dup {P:Program} {K:Kx} {Q:Exit→Act→World→Prop} {c:Code} {ρ:Fram} {l r:List Seg} {t:Nat} {v:Value} (h:look t ρ=some v) (g:G P K Q c ((t,v)::ρ) l r):G P K Q c ρ l r:=by
  intro a w ha
  refine g a w (ha.fram fun t' v' h'=>?_)
  simp only[look] at h'
  cases hb:Nat.beq t t' with
  |true=>
    rw[hb] at h';simp only[cond_true,Option.some.injEq] at h'
    rw[←Nat.eq_of_beq_eq_true hb, ←h'];exact ha.fr t v h
  |false=>rw[hb] at h';exact ha.fr t' v' h'
theorem look_lt {n:Nat}:∀{ρ:Fram},(ρ.all fun p=>Nat.blt p.1 n)=true→∀{t:Nat} {v:Value},look t ρ=some v→t<n
  |[],_,t,v,h=>by simp[look] at h
  |p::ρ,hn,t,v,h=>by
    simp only[List.all_cons,Bool.and_eq_true] at hn
    simp only[look] at h
    cases hb:Nat.beq p.1 t with
    |true=>rw[←Nat.eq_of_beq_eq_true hb];have:=hn.1;simp[Nat.blt] at this;omega
    |false=>rw[hb] at h;exact look_lt hn.2 h
theorem look_app {n t:Nat} (ht:t<n) {ρ:Fram}:∀{N:Fram},(N.all fun p=>Nat.ble n p.1)=true→look t (N++ρ)=look t ρ
  |[],_=>rfl
  |p::N,h=>by
    simp only[List.all_cons,Bool.and_eq_true] at h
    have h1:=Nat.le_of_ble_eq_true h.1
    have hb:Nat.beq p.1 t=false:=by
      cases hb:Nat.beq p.1 t with
      |true=>have:=Nat.eq_of_beq_eq_true hb;omega
      |false=>rfl
    simp only[List.cons_append,look,hb,cond_false]
    exact look_app ht h.2
theorem GQ.news {K:Kx} {Q:Exit→Act→World→Prop} {e:Exit} {ρ N:Fram} {l r:List Seg} {n t1 t2:Nat} {v1 v2:Value} (hρ:(ρ.all fun p=>Nat.blt p.1 n)=true) (hN:(N.all fun p=>Nat.ble n p.1)=true) (h1:look t1 ρ=some v1) (h2:look t2 ρ=some v2) (k:GQ K Q e ρ l r):GQ K Q e (N++(t1,v1)::(t2,v2)::ρ) l r:=by
  intro a w ha
  refine k a w (ha.fram fun t v h=>?_)
  apply ha.fr
  rw[look_app (look_lt hρ h) hN]
  simp only[look]
  cases hb:Nat.beq t1 t with
  |true=>rw[←Nat.eq_of_beq_eq_true hb,h1] at h;rw[←h];rfl
  |false=>
    simp only[cond_false]
    cases hb2:Nat.beq t2 t with
    |true=>rw[←Nat.eq_of_beq_eq_true hb2,h2] at h;rw[←h];rfl
    |false=>exact h
theorem t113 {Q:Exit→Act→World→Prop} {ρ:Fram} {l l0 r:List Seg} {w0:World} {L:List Oper} {b12 b9:Nat} {s1 s2:Option (TypeId × Nat)} {X:Seg} {E p:Nat} {D:List Nat}
    (hL:findR Tryz.prog 21 113=some L.toArray) (hQ:∀c a w (d:Nat) v,Q (.panic c) (a.put (some d) v) w→Q (.panic c) a w) (hp:p+4≤D.length)
    (h40:look 40 ρ=some (.slice (some ⟨b9,p,none⟩) 4 4)) (h36:look 36 ρ=some (.pointer (some ⟨b12,0,none⟩))) (hρ:(ρ.all fun q=>Nat.blt q.1 525)=true)
    (k:GQ ⟨556,l0,w0⟩ Q .normal ρ (⟨b12,0,[.int .u16 ((E:Nat):Int)],s1⟩::X::⟨b9,0,nats .u16 ((((D.set p E).set (p+1) E).set (p+2) E).set (p+3) E),s2⟩::l) r):
    G Tryz.prog ⟨556,l0,w0⟩ Q (.region 113 L.toArray true) ρ (⟨b12,0,[.int .u16 ((E:Nat):Int)],s1⟩::X::⟨b9,0,nats .u16 D,s2⟩::l) r:=by
 unfold findR at hL
 rw[Tryz.func21] at hL
 have hL2:some _=some L.toArray:=hL
 cases Option.some.inj hL2
 have k9:=fun N (hN:(List.all N fun q=>Nat.ble 525 q.1)=true)=>GQ.news (N:=N) hρ hN h40 h36 k
 clear hL hL2 k
 refine G.dup h36 (G.dup (t:=40) h40 ?_)
 refine G.tree 43760 (YS 0 (YS 1 (YS 2 (YS 3 (YE 4 (YS 8 (YE 5 (YE 6 (YE 7 (YE 9 (YS 10 (YF 11 (YS 12 (YF 13 (YS 14 (YF 15 .nil)))))) .stop) (YE 9 (YS 10 (YE 7 (YF 11 (YS 12 (YF 13 (YS 14 (YF 15 .nil))))) (YE 11 (YS 12 (YE 7 (YF 13 (YS 14 (YF 15 .nil))) (YF 13 (YF 7 (YS 14 (YF 15 .nil)))))) .stop))) .stop)) (YE 7 (YE 6 (YE 9 (YS 10 (YF 11 (YS 12 (YF 13 (YS 14 (YF 15 .nil)))))) .stop) (YE 9 (YS 10 (YE 6 (YF 11 (YS 12 (YF 13 (YS 14 (YF 15 .nil))))) (YE 11 (YF 6 (YS 12 (YF 13 (YS 14 (YF 15 .nil))))) .stop))) .stop)) (YE 9 (YS 10 (YE 6 (YE 7 (YF 11 (YS 12 (YF 13 (YS 14 (YF 15 .nil))))) (YE 11 (YS 12 (YE 7 (YF 13 (YS 14 (YF 15 .nil))) (YF 13 (YF 7 (YS 14 (YF 15 .nil)))))) .stop)) (YE 7 (YE 6 (YF 11 (YS 12 (YF 13 (YS 14 (YF 15 .nil))))) (YE 11 (YF 6 (YS 12 (YF 13 (YS 14 (YF 15 .nil))))) .stop)) (YE 11 (YE 6 (YS 12 (YE 7 (YF 13 (YS 14 (YF 15 .nil))) (YF 13 (YF 7 (YS 14 (YF 15 .nil)))))) (YE 7 (YF 6 (YS 12 (YF 13 (YS 14 (YF 15 .nil))))) .stop)) .stop)))) .stop))) (YE 6 (YE 5 (YE 7 (YE 9 (YS 10 (YF 11 (YS 12 (YF 13 (YS 14 (YF 15 .nil)))))) .stop) (YE 9 (YS 10 (YE 7 (YF 11 (YS 12 (YF 13 (YS 14 (YF 15 .nil))))) (YE 11 (YS 12 (YE 7 (YF 13 (YS 14 (YF 15 .nil))) (YF 13 (YF 7 (YS 14 (YF 15 .nil)))))) .stop))) .stop)) (YE 7 (YE 5 (YE 9 (YS 10 (YF 11 (YS 12 (YF 13 (YS 14 (YF 15 .nil)))))) .stop) (YE 9 (YE 5 (YS 10 (YF 11 (YS 12 (YF 13 (YS 14 (YF 15 .nil)))))) .stop) .stop)) (YE 9 (YE 5 (YS 10 (YE 7 (YF 11 (YS 12 (YF 13 (YS 14 (YF 15 .nil))))) (YE 11 (YS 12 (YE 7 (YF 13 (YS 14 (YF 15 .nil))) (YF 13 (YF 7 (YS 14 (YF 15 .nil)))))) .stop))) (YE 7 (YE 5 (YS 10 (YF 11 (YS 12 (YF 13 (YS 14 (YF 15 .nil)))))) .stop) .stop)) .stop))) (YE 7 (YE 5 (YE 6 (YE 9 (YS 10 (YF 11 (YS 12 (YF 13 (YS 14 (YF 15 .nil)))))) .stop) (YE 9 (YS 10 (YE 6 (YF 11 (YS 12 (YF 13 (YS 14 (YF 15 .nil))))) (YE 11 (YF 6 (YS 12 (YF 13 (YS 14 (YF 15 .nil))))) .stop))) .stop)) (YE 6 (YE 5 (YE 9 (YS 10 (YF 11 (YS 12 (YF 13 (YS 14 (YF 15 .nil)))))) .stop) (YE 9 (YE 5 (YS 10 (YF 11 (YS 12 (YF 13 (YS 14 (YF 15 .nil)))))) .stop) .stop)) (YE 9 (YE 5 (YS 10 (YE 6 (YF 11 (YS 12 (YF 13 (YS 14 (YF 15 .nil))))) (YE 11 (YF 6 (YS 12 (YF 13 (YS 14 (YF 15 .nil))))) .stop))) (YE 6 (YE 5 (YS 10 (YF 11 (YS 12 (YF 13 (YS 14 (YF 15 .nil)))))) .stop) .stop)) .stop))) (YE 9 (YE 5 (YS 10 (YE 6 (YE 7 (YF 11 (YS 12 (YF 13 (YS 14 (YF 15 .nil))))) (YE 11 (YS 12 (YE 7 (YF 13 (YS 14 (YF 15 .nil))) (YF 13 (YF 7 (YS 14 (YF 15 .nil)))))) .stop)) (YE 7 (YE 6 (YF 11 (YS 12 (YF 13 (YS 14 (YF 15 .nil))))) (YE 11 (YF 6 (YS 12 (YF 13 (YS 14 (YF 15 .nil))))) .stop)) (YE 11 (YE 6 (YS 12 (YE 7 (YF 13 (YS 14 (YF 15 .nil))) (YF 13 (YF 7 (YS 14 (YF 15 .nil)))))) (YE 7 (YF 6 (YS 12 (YF 13 (YS 14 (YF 15 .nil))))) .stop)) .stop)))) (YE 6 (YE 5 (YS 10 (YE 7 (YF 11 (YS 12 (YF 13 (YS 14 (YF 15 .nil))))) (YE 11 (YS 12 (YE 7 (YF 13 (YS 14 (YF 15 .nil))) (YF 13 (YF 7 (YS 14 (YF 15 .nil)))))) .stop))) (YE 7 (YE 5 (YS 10 (YF 11 (YS 12 (YF 13 (YS 14 (YF 15 .nil)))))) .stop) .stop)) (YE 7 (YE 5 (YS 10 (YE 6 (YF 11 (YS 12 (YF 13 (YS 14 (YF 15 .nil))))) (YE 11 (YF 6 (YS 12 (YF 13 (YS 14 (YF 15 .nil))))) .stop))) (YE 6 (YE 5 (YS 10 (YF 11 (YS 12 (YF 13 (YS 14 (YF 15 .nil)))))) .stop) .stop)) .stop))) .stop))))) (YE 5 (YE 4 (YS 8 (YE 6 (YE 7 (YE 9 (YS 10 (YF 11 (YS 12 (YF 13 (YS 14 (YF 15 .nil)))))) .stop) (YE 9 (YS 10 (YE 7 (YF 11 (YS 12 (YF 13 (YS 14 (YF 15 .nil))))) (YE 11 (YS 12 (YE 7 (YF 13 (YS 14 (YF 15 .nil))) (YF 13 (YF 7 (YS 14 (YF 15 .nil)))))) .stop))) .stop)) (YE 7 (YE 6 (YE 9 (YS 10 (YF 11 (YS 12 (YF 13 (YS 14 (YF 15 .nil)))))) .stop) (YE 9 (YS 10 (YE 6 (YF 11 (YS 12 (YF 13 (YS 14 (YF 15 .nil))))) (YE 11 (YF 6 (YS 12 (YF 13 (YS 14 (YF 15 .nil))))) .stop))) .stop)) (YE 9 (YS 10 (YE 6 (YE 7 (YF 11 (YS 12 (YF 13 (YS 14 (YF 15 .nil))))) (YE 11 (YS 12 (YE 7 (YF 13 (YS 14 (YF 15 .nil))) (YF 13 (YF 7 (YS 14 (YF 15 .nil)))))) .stop)) (YE 7 (YE 6 (YF 11 (YS 12 (YF 13 (YS 14 (YF 15 .nil))))) (YE 11 (YF 6 (YS 12 (YF 13 (YS 14 (YF 15 .nil))))) .stop)) (YE 11 (YE 6 (YS 12 (YE 7 (YF 13 (YS 14 (YF 15 .nil))) (YF 13 (YF 7 (YS 14 (YF 15 .nil)))))) (YE 7 (YF 6 (YS 12 (YF 13 (YS 14 (YF 15 .nil))))) .stop)) .stop)))) .stop)))) (YE 6 (YE 4 (YS 8 (YE 7 (YE 9 (YS 10 (YF 11 (YS 12 (YF 13 (YS 14 (YF 15 .nil)))))) .stop) (YE 9 (YS 10 (YE 7 (YF 11 (YS 12 (YF 13 (YS 14 (YF 15 .nil))))) (YE 11 (YS 12 (YE 7 (YF 13 (YS 14 (YF 15 .nil))) (YF 13 (YF 7 (YS 14 (YF 15 .nil)))))) .stop))) .stop))) (YE 7 (YE 4 (YS 8 (YE 9 (YS 10 (YF 11 (YS 12 (YF 13 (YS 14 (YF 15 .nil)))))) .stop)) .stop) .stop)) (YE 7 (YE 4 (YS 8 (YE 6 (YE 9 (YS 10 (YF 11 (YS 12 (YF 13 (YS 14 (YF 15 .nil)))))) .stop) (YE 9 (YS 10 (YE 6 (YF 11 (YS 12 (YF 13 (YS 14 (YF 15 .nil))))) (YE 11 (YF 6 (YS 12 (YF 13 (YS 14 (YF 15 .nil))))) .stop))) .stop))) (YE 6 (YE 4 (YS 8 (YE 9 (YS 10 (YF 11 (YS 12 (YF 13 (YS 14 (YF 15 .nil)))))) .stop)) .stop) .stop)) .stop))) (YE 6 (YE 4 (YS 8 (YE 5 (YE 7 (YE 9 (YS 10 (YF 11 (YS 12 (YF 13 (YS 14 (YF 15 .nil)))))) .stop) (YE 9 (YS 10 (YE 7 (YF 11 (YS 12 (YF 13 (YS 14 (YF 15 .nil))))) (YE 11 (YS 12 (YE 7 (YF 13 (YS 14 (YF 15 .nil))) (YF 13 (YF 7 (YS 14 (YF 15 .nil)))))) .stop))) .stop)) (YE 7 (YE 5 (YE 9 (YS 10 (YF 11 (YS 12 (YF 13 (YS 14 (YF 15 .nil)))))) .stop) (YE 9 (YE 5 (YS 10 (YF 11 (YS 12 (YF 13 (YS 14 (YF 15 .nil)))))) .stop) .stop)) (YE 9 (YE 5 (YS 10 (YE 7 (YF 11 (YS 12 (YF 13 (YS 14 (YF 15 .nil))))) (YE 11 (YS 12 (YE 7 (YF 13 (YS 14 (YF 15 .nil))) (YF 13 (YF 7 (YS 14 (YF 15 .nil)))))) .stop))) (YE 7 (YE 5 (YS 10 (YF 11 (YS 12 (YF 13 (YS 14 (YF 15 .nil)))))) .stop) .stop)) .stop)))) (YE 5 (YE 4 (YS 8 (YE 7 (YE 9 (YS 10 (YF 11 (YS 12 (YF 13 (YS 14 (YF 15 .nil)))))) .stop) (YE 9 (YS 10 (YE 7 (YF 11 (YS 12 (YF 13 (YS 14 (YF 15 .nil))))) (YE 11 (YS 12 (YE 7 (YF 13 (YS 14 (YF 15 .nil))) (YF 13 (YF 7 (YS 14 (YF 15 .nil)))))) .stop))) .stop))) (YE 7 (YE 4 (YS 8 (YE 9 (YS 10 (YF 11 (YS 12 (YF 13 (YS 14 (YF 15 .nil)))))) .stop)) .stop) .stop)) (YE 7 (YE 4 (YS 8 (YE 5 (YE 9 (YS 10 (YF 11 (YS 12 (YF 13 (YS 14 (YF 15 .nil)))))) .stop) (YE 9 (YE 5 (YS 10 (YF 11 (YS 12 (YF 13 (YS 14 (YF 15 .nil)))))) .stop) .stop))) (YE 5 (YE 4 (YS 8 (YE 9 (YS 10 (YF 11 (YS 12 (YF 13 (YS 14 (YF 15 .nil)))))) .stop)) .stop) .stop)) .stop))) (YE 7 (YE 4 (YS 8 (YE 5 (YE 6 (YE 9 (YS 10 (YF 11 (YS 12 (YF 13 (YS 14 (YF 15 .nil)))))) .stop) (YE 9 (YS 10 (YE 6 (YF 11 (YS 12 (YF 13 (YS 14 (YF 15 .nil))))) (YE 11 (YF 6 (YS 12 (YF 13 (YS 14 (YF 15 .nil))))) .stop))) .stop)) (YE 6 (YE 5 (YE 9 (YS 10 (YF 11 (YS 12 (YF 13 (YS 14 (YF 15 .nil)))))) .stop) (YE 9 (YE 5 (YS 10 (YF 11 (YS 12 (YF 13 (YS 14 (YF 15 .nil)))))) .stop) .stop)) (YE 9 (YE 5 (YS 10 (YE 6 (YF 11 (YS 12 (YF 13 (YS 14 (YF 15 .nil))))) (YE 11 (YF 6 (YS 12 (YF 13 (YS 14 (YF 15 .nil))))) .stop))) (YE 6 (YE 5 (YS 10 (YF 11 (YS 12 (YF 13 (YS 14 (YF 15 .nil)))))) .stop) .stop)) .stop)))) (YE 5 (YE 4 (YS 8 (YE 6 (YE 9 (YS 10 (YF 11 (YS 12 (YF 13 (YS 14 (YF 15 .nil)))))) .stop) (YE 9 (YS 10 (YE 6 (YF 11 (YS 12 (YF 13 (YS 14 (YF 15 .nil))))) (YE 11 (YF 6 (YS 12 (YF 13 (YS 14 (YF 15 .nil))))) .stop))) .stop))) (YE 6 (YE 4 (YS 8 (YE 9 (YS 10 (YF 11 (YS 12 (YF 13 (YS 14 (YF 15 .nil)))))) .stop)) .stop) .stop)) (YE 6 (YE 4 (YS 8 (YE 5 (YE 9 (YS 10 (YF 11 (YS 12 (YF 13 (YS 14 (YF 15 .nil)))))) .stop) (YE 9 (YE 5 (YS 10 (YF 11 (YS 12 (YF 13 (YS 14 (YF 15 .nil)))))) .stop) .stop))) (YE 5 (YE 4 (YS 8 (YE 9 (YS 10 (YF 11 (YS 12 (YF 13 (YS 14 (YF 15 .nil)))))) .stop)) .stop) .stop)) .stop))) .stop)))))))) mo (by kernel_rfl) hQ ?_
 refine Zta 4 ?_
 refine Ztx (Zla 0 0 ag_115 sz_115) ?_ ?_
 refine Zty (Zx p 0 se_81) ?_
 refine Ztx (Zla 0 0 ag_115 sz_115) ?_ ?_
 refine Ztx (Zla 0 0 ag_115 sz_115) ?_ ?_
 refine Ztx (Zla 0 0 ag_115 sz_115) ?_ ?_
 refine Xtt (Zsa 2 p sz_115) ?_
 refine Zty (Zx (p+1) 1 se_81) ?_
 refine Xtt (Zsa 2 (p+1) sz_115) ?_
 refine Zty (Zx (p+2) 2 se_81) ?_
 refine Xtt (Zsa 2 (p+2) sz_115) ?_
 refine Zty (Zx (p+3) 3 se_81) ?_
 refine Xtt (Zsa 2 (p+3) sz_115) ?_
 refine GT.nil ?_
 exact k9 [_,_,_,_,_,_,_,_,_,_,_,_] rfl
 refine Xtt (Zsa 2 p sz_115) ?_
 refine Zty (Zx (p+1) 1 se_81) ?_
 refine Ztx (Zla 0 0 ag_115 sz_115) ?_ ?_
 refine Xtt (Zsa 2 (p+1) sz_115) ?_
 refine Zty (Zx (p+2) 2 se_81) ?_
 refine Xtt (Zsa 2 (p+2) sz_115) ?_
 refine Zty (Zx (p+3) 3 se_81) ?_
 refine Xtt (Zsa 2 (p+3) sz_115) ?_
 refine GT.nil ?_
 exact k9 [_,_,_,_,_,_,_,_,_,_,_,_] rfl
 refine Xtt (Zsa 2 (p+1) sz_115) ?_
 refine Zty (Zx (p+2) 2 se_81) ?_
 refine Ztx (Zla 0 0 ag_115 sz_115) ?_ ?_
 refine Xtt (Zsa 2 (p+2) sz_115) ?_
 refine Zty (Zx (p+3) 3 se_81) ?_
 refine Xtt (Zsa 2 (p+3) sz_115) ?_
 refine GT.nil ?_
 exact k9 [_,_,_,_,_,_,_,_,_,_,_,_] rfl
 refine Xtt (Zsa 2 (p+2) sz_115) ?_
 refine Xtu (Zla 0 0 ag_115 sz_115) ?_
 refine Zty (Zx (p+3) 3 se_81) ?_
 refine Xtt (Zsa 2 (p+3) sz_115) ?_
 refine GT.nil ?_
 exact k9 [_,_,_,_,_,_,_,_,_,_,_,_] rfl
 refine Ztx (Zla 0 0 ag_115 sz_115) ?_ ?_
 refine Ztx (Zla 0 0 ag_115 sz_115) ?_ ?_
 refine Xtt (Zsa 2 p sz_115) ?_
 refine Zty (Zx (p+1) 1 se_81) ?_
 refine Xtt (Zsa 2 (p+1) sz_115) ?_
 refine Zty (Zx (p+2) 2 se_81) ?_
 refine Xtt (Zsa 2 (p+2) sz_115) ?_
 refine Zty (Zx (p+3) 3 se_81) ?_
 refine Xtt (Zsa 2 (p+3) sz_115) ?_
 refine GT.nil ?_
 exact k9 [_,_,_,_,_,_,_,_,_,_,_,_] rfl
 refine Xtt (Zsa 2 p sz_115) ?_
 refine Zty (Zx (p+1) 1 se_81) ?_
 refine Ztx (Zla 0 0 ag_115 sz_115) ?_ ?_
 refine Xtt (Zsa 2 (p+1) sz_115) ?_
 refine Zty (Zx (p+2) 2 se_81) ?_
 refine Xtt (Zsa 2 (p+2) sz_115) ?_
 refine Zty (Zx (p+3) 3 se_81) ?_
 refine Xtt (Zsa 2 (p+3) sz_115) ?_
 refine GT.nil ?_
 exact k9 [_,_,_,_,_,_,_,_,_,_,_,_] rfl
 refine Xtt (Zsa 2 (p+1) sz_115) ?_
 refine Xtu (Zla 0 0 ag_115 sz_115) ?_
 refine Zty (Zx (p+2) 2 se_81) ?_
 refine Xtt (Zsa 2 (p+2) sz_115) ?_
 refine Zty (Zx (p+3) 3 se_81) ?_
 refine Xtt (Zsa 2 (p+3) sz_115) ?_
 refine GT.nil ?_
 exact k9 [_,_,_,_,_,_,_,_,_,_,_,_] rfl
 refine Xtt (Zsa 2 p sz_115) ?_
 refine Zty (Zx (p+1) 1 se_81) ?_
 refine Ztx (Zla 0 0 ag_115 sz_115) ?_ ?_
 refine Ztx (Zla 0 0 ag_115 sz_115) ?_ ?_
 refine Xtt (Zsa 2 (p+1) sz_115) ?_
 refine Zty (Zx (p+2) 2 se_81) ?_
 refine Xtt (Zsa 2 (p+2) sz_115) ?_
 refine Zty (Zx (p+3) 3 se_81) ?_
 refine Xtt (Zsa 2 (p+3) sz_115) ?_
 refine GT.nil ?_
 exact k9 [_,_,_,_,_,_,_,_,_,_,_,_] rfl
 refine Xtt (Zsa 2 (p+1) sz_115) ?_
 refine Zty (Zx (p+2) 2 se_81) ?_
 refine Ztx (Zla 0 0 ag_115 sz_115) ?_ ?_
 refine Xtt (Zsa 2 (p+2) sz_115) ?_
 refine Zty (Zx (p+3) 3 se_81) ?_
 refine Xtt (Zsa 2 (p+3) sz_115) ?_
 refine GT.nil ?_
 exact k9 [_,_,_,_,_,_,_,_,_,_,_,_] rfl
 refine Xtt (Zsa 2 (p+2) sz_115) ?_
 refine Xtu (Zla 0 0 ag_115 sz_115) ?_
 refine Zty (Zx (p+3) 3 se_81) ?_
 refine Xtt (Zsa 2 (p+3) sz_115) ?_
 refine GT.nil ?_
 exact k9 [_,_,_,_,_,_,_,_,_,_,_,_] rfl
 refine Ztx (Zla 0 0 ag_115 sz_115) ?_ ?_
 refine Ztx (Zla 0 0 ag_115 sz_115) ?_ ?_
 refine Xtt (Zsa 2 (p+1) sz_115) ?_
 refine Zty (Zx (p+2) 2 se_81) ?_
 refine Xtt (Zsa 2 (p+2) sz_115) ?_
 refine Zty (Zx (p+3) 3 se_81) ?_
 refine Xtt (Zsa 2 (p+3) sz_115) ?_
 refine GT.nil ?_
 exact k9 [_,_,_,_,_,_,_,_,_,_,_,_] rfl
 refine Xtt (Zsa 2 (p+1) sz_115) ?_
 refine Xtu (Zla 0 0 ag_115 sz_115) ?_
 refine Zty (Zx (p+2) 2 se_81) ?_
 refine Xtt (Zsa 2 (p+2) sz_115) ?_
 refine Zty (Zx (p+3) 3 se_81) ?_
 refine Xtt (Zsa 2 (p+3) sz_115) ?_
 refine GT.nil ?_
 exact k9 [_,_,_,_,_,_,_,_,_,_,_,_] rfl
 refine Xtt (Zsa 2 (p+1) sz_115) ?_
 refine Ztx (Zla 0 0 ag_115 sz_115) ?_ ?_
 refine Zty (Zx (p+2) 2 se_81) ?_
 refine Ztx (Zla 0 0 ag_115 sz_115) ?_ ?_
 refine Xtt (Zsa 2 (p+2) sz_115) ?_
 refine Zty (Zx (p+3) 3 se_81) ?_
 refine Xtt (Zsa 2 (p+3) sz_115) ?_
 refine GT.nil ?_
 exact k9 [_,_,_,_,_,_,_,_,_,_,_,_] rfl
 refine Xtt (Zsa 2 (p+2) sz_115) ?_
 refine Xtu (Zla 0 0 ag_115 sz_115) ?_
 refine Zty (Zx (p+3) 3 se_81) ?_
 refine Xtt (Zsa 2 (p+3) sz_115) ?_
 refine GT.nil ?_
 exact k9 [_,_,_,_,_,_,_,_,_,_,_,_] rfl
 refine Xtu (Zla 0 0 ag_115 sz_115) ?_
 refine Xtu (Zla 0 0 ag_115 sz_115) ?_
 refine Zty (Zx (p+2) 2 se_81) ?_
 refine Xtt (Zsa 2 (p+2) sz_115) ?_
 refine Zty (Zx (p+3) 3 se_81) ?_
 refine Xtt (Zsa 2 (p+3) sz_115) ?_
 refine GT.nil ?_
 exact k9 [_,_,_,_,_,_,_,_,_,_,_,_] rfl
 refine Ztx (Zla 0 0 ag_115 sz_115) ?_ ?_
 refine Ztx (Zla 0 0 ag_115 sz_115) ?_ ?_
 refine Ztx (Zla 0 0 ag_115 sz_115) ?_ ?_
 refine Xtt (Zsa 2 p sz_115) ?_
 refine Zty (Zx (p+1) 1 se_81) ?_
 refine Xtt (Zsa 2 (p+1) sz_115) ?_
 refine Zty (Zx (p+2) 2 se_81) ?_
 refine Xtt (Zsa 2 (p+2) sz_115) ?_
 refine Zty (Zx (p+3) 3 se_81) ?_
 refine Xtt (Zsa 2 (p+3) sz_115) ?_
 refine GT.nil ?_
 exact k9 [_,_,_,_,_,_,_,_,_,_,_,_] rfl
 refine Xtt (Zsa 2 p sz_115) ?_
 refine Zty (Zx (p+1) 1 se_81) ?_
 refine Ztx (Zla 0 0 ag_115 sz_115) ?_ ?_
 refine Xtt (Zsa 2 (p+1) sz_115) ?_
 refine Zty (Zx (p+2) 2 se_81) ?_
 refine Xtt (Zsa 2 (p+2) sz_115) ?_
 refine Zty (Zx (p+3) 3 se_81) ?_
 refine Xtt (Zsa 2 (p+3) sz_115) ?_
 refine GT.nil ?_
 exact k9 [_,_,_,_,_,_,_,_,_,_,_,_] rfl
 refine Xtt (Zsa 2 (p+1) sz_115) ?_
 refine Zty (Zx (p+2) 2 se_81) ?_
 refine Ztx (Zla 0 0 ag_115 sz_115) ?_ ?_
 refine Xtt (Zsa 2 (p+2) sz_115) ?_
 refine Zty (Zx (p+3) 3 se_81) ?_
 refine Xtt (Zsa 2 (p+3) sz_115) ?_
 refine GT.nil ?_
 exact k9 [_,_,_,_,_,_,_,_,_,_,_,_] rfl
 refine Xtt (Zsa 2 (p+2) sz_115) ?_
 refine Xtu (Zla 0 0 ag_115 sz_115) ?_
 refine Zty (Zx (p+3) 3 se_81) ?_
 refine Xtt (Zsa 2 (p+3) sz_115) ?_
 refine GT.nil ?_
 exact k9 [_,_,_,_,_,_,_,_,_,_,_,_] rfl
 refine Ztx (Zla 0 0 ag_115 sz_115) ?_ ?_
 refine Ztx (Zla 0 0 ag_115 sz_115) ?_ ?_
 refine Xtt (Zsa 2 p sz_115) ?_
 refine Zty (Zx (p+1) 1 se_81) ?_
 refine Xtt (Zsa 2 (p+1) sz_115) ?_
 refine Zty (Zx (p+2) 2 se_81) ?_
 refine Xtt (Zsa 2 (p+2) sz_115) ?_
 refine Zty (Zx (p+3) 3 se_81) ?_
 refine Xtt (Zsa 2 (p+3) sz_115) ?_
 refine GT.nil ?_
 exact k9 [_,_,_,_,_,_,_,_,_,_,_,_] rfl
 refine Xtt (Zsa 2 p sz_115) ?_
 refine Xtu (Zla 0 0 ag_115 sz_115) ?_
 refine Zty (Zx (p+1) 1 se_81) ?_
 refine Xtt (Zsa 2 (p+1) sz_115) ?_
 refine Zty (Zx (p+2) 2 se_81) ?_
 refine Xtt (Zsa 2 (p+2) sz_115) ?_
 refine Zty (Zx (p+3) 3 se_81) ?_
 refine Xtt (Zsa 2 (p+3) sz_115) ?_
 refine GT.nil ?_
 exact k9 [_,_,_,_,_,_,_,_,_,_,_,_] rfl
 refine Xtt (Zsa 2 p sz_115) ?_
 refine Ztx (Zla 0 0 ag_115 sz_115) ?_ ?_
 refine Zty (Zx (p+1) 1 se_81) ?_
 refine Ztx (Zla 0 0 ag_115 sz_115) ?_ ?_
 refine Xtt (Zsa 2 (p+1) sz_115) ?_
 refine Zty (Zx (p+2) 2 se_81) ?_
 refine Xtt (Zsa 2 (p+2) sz_115) ?_
 refine Zty (Zx (p+3) 3 se_81) ?_
 refine Xtt (Zsa 2 (p+3) sz_115) ?_
 refine GT.nil ?_
 exact k9 [_,_,_,_,_,_,_,_,_,_,_,_] rfl
 refine Xtt (Zsa 2 (p+1) sz_115) ?_
 refine Zty (Zx (p+2) 2 se_81) ?_
 refine Ztx (Zla 0 0 ag_115 sz_115) ?_ ?_
 refine Xtt (Zsa 2 (p+2) sz_115) ?_
 refine Zty (Zx (p+3) 3 se_81) ?_
 refine Xtt (Zsa 2 (p+3) sz_115) ?_
 refine GT.nil ?_
 exact k9 [_,_,_,_,_,_,_,_,_,_,_,_] rfl
 refine Xtt (Zsa 2 (p+2) sz_115) ?_
 refine Xtu (Zla 0 0 ag_115 sz_115) ?_
 refine Zty (Zx (p+3) 3 se_81) ?_
 refine Xtt (Zsa 2 (p+3) sz_115) ?_
 refine GT.nil ?_
 exact k9 [_,_,_,_,_,_,_,_,_,_,_,_] rfl
 refine Xtu (Zla 0 0 ag_115 sz_115) ?_
 refine Xtu (Zla 0 0 ag_115 sz_115) ?_
 refine Zty (Zx (p+1) 1 se_81) ?_
 refine Xtt (Zsa 2 (p+1) sz_115) ?_
 refine Zty (Zx (p+2) 2 se_81) ?_
 refine Xtt (Zsa 2 (p+2) sz_115) ?_
 refine Zty (Zx (p+3) 3 se_81) ?_
 refine Xtt (Zsa 2 (p+3) sz_115) ?_
 refine GT.nil ?_
 exact k9 [_,_,_,_,_,_,_,_,_,_,_,_] rfl
 refine Ztx (Zla 0 0 ag_115 sz_115) ?_ ?_
 refine Ztx (Zla 0 0 ag_115 sz_115) ?_ ?_
 refine Ztx (Zla 0 0 ag_115 sz_115) ?_ ?_
 refine Xtt (Zsa 2 p sz_115) ?_
 refine Zty (Zx (p+1) 1 se_81) ?_
 refine Xtt (Zsa 2 (p+1) sz_115) ?_
 refine Zty (Zx (p+2) 2 se_81) ?_
 refine Xtt (Zsa 2 (p+2) sz_115) ?_
 refine Zty (Zx (p+3) 3 se_81) ?_
 refine Xtt (Zsa 2 (p+3) sz_115) ?_
 refine GT.nil ?_
 exact k9 [_,_,_,_,_,_,_,_,_,_,_,_] rfl
 refine Xtt (Zsa 2 p sz_115) ?_
 refine Zty (Zx (p+1) 1 se_81) ?_
 refine Ztx (Zla 0 0 ag_115 sz_115) ?_ ?_
 refine Xtt (Zsa 2 (p+1) sz_115) ?_
 refine Zty (Zx (p+2) 2 se_81) ?_
 refine Xtt (Zsa 2 (p+2) sz_115) ?_
 refine Zty (Zx (p+3) 3 se_81) ?_
 refine Xtt (Zsa 2 (p+3) sz_115) ?_
 refine GT.nil ?_
 exact k9 [_,_,_,_,_,_,_,_,_,_,_,_] rfl
 refine Xtt (Zsa 2 (p+1) sz_115) ?_
 refine Xtu (Zla 0 0 ag_115 sz_115) ?_
 refine Zty (Zx (p+2) 2 se_81) ?_
 refine Xtt (Zsa 2 (p+2) sz_115) ?_
 refine Zty (Zx (p+3) 3 se_81) ?_
 refine Xtt (Zsa 2 (p+3) sz_115) ?_
 refine GT.nil ?_
 exact k9 [_,_,_,_,_,_,_,_,_,_,_,_] rfl
 refine Ztx (Zla 0 0 ag_115 sz_115) ?_ ?_
 refine Ztx (Zla 0 0 ag_115 sz_115) ?_ ?_
 refine Xtt (Zsa 2 p sz_115) ?_
 refine Zty (Zx (p+1) 1 se_81) ?_
 refine Xtt (Zsa 2 (p+1) sz_115) ?_
 refine Zty (Zx (p+2) 2 se_81) ?_
 refine Xtt (Zsa 2 (p+2) sz_115) ?_
 refine Zty (Zx (p+3) 3 se_81) ?_
 refine Xtt (Zsa 2 (p+3) sz_115) ?_
 refine GT.nil ?_
 exact k9 [_,_,_,_,_,_,_,_,_,_,_,_] rfl
 refine Xtt (Zsa 2 p sz_115) ?_
 refine Xtu (Zla 0 0 ag_115 sz_115) ?_
 refine Zty (Zx (p+1) 1 se_81) ?_
 refine Xtt (Zsa 2 (p+1) sz_115) ?_
 refine Zty (Zx (p+2) 2 se_81) ?_
 refine Xtt (Zsa 2 (p+2) sz_115) ?_
 refine Zty (Zx (p+3) 3 se_81) ?_
 refine Xtt (Zsa 2 (p+3) sz_115) ?_
 refine GT.nil ?_
 exact k9 [_,_,_,_,_,_,_,_,_,_,_,_] rfl
 refine Xtt (Zsa 2 p sz_115) ?_
 refine Ztx (Zla 0 0 ag_115 sz_115) ?_ ?_
 refine Zty (Zx (p+1) 1 se_81) ?_
 refine Ztx (Zla 0 0 ag_115 sz_115) ?_ ?_
 refine Xtt (Zsa 2 (p+1) sz_115) ?_
 refine Zty (Zx (p+2) 2 se_81) ?_
 refine Xtt (Zsa 2 (p+2) sz_115) ?_
 refine Zty (Zx (p+3) 3 se_81) ?_
 refine Xtt (Zsa 2 (p+3) sz_115) ?_
 refine GT.nil ?_
 exact k9 [_,_,_,_,_,_,_,_,_,_,_,_] rfl
 refine Xtt (Zsa 2 (p+1) sz_115) ?_
 refine Xtu (Zla 0 0 ag_115 sz_115) ?_
 refine Zty (Zx (p+2) 2 se_81) ?_
 refine Xtt (Zsa 2 (p+2) sz_115) ?_
 refine Zty (Zx (p+3) 3 se_81) ?_
 refine Xtt (Zsa 2 (p+3) sz_115) ?_
 refine GT.nil ?_
 exact k9 [_,_,_,_,_,_,_,_,_,_,_,_] rfl
 refine Xtu (Zla 0 0 ag_115 sz_115) ?_
 refine Xtu (Zla 0 0 ag_115 sz_115) ?_
 refine Zty (Zx (p+1) 1 se_81) ?_
 refine Xtt (Zsa 2 (p+1) sz_115) ?_
 refine Zty (Zx (p+2) 2 se_81) ?_
 refine Xtt (Zsa 2 (p+2) sz_115) ?_
 refine Zty (Zx (p+3) 3 se_81) ?_
 refine Xtt (Zsa 2 (p+3) sz_115) ?_
 refine GT.nil ?_
 exact k9 [_,_,_,_,_,_,_,_,_,_,_,_] rfl
 refine Xtt (Zsa 2 p sz_115) ?_
 refine Ztx (Zla 0 0 ag_115 sz_115) ?_ ?_
 refine Zty (Zx (p+1) 1 se_81) ?_
 refine Ztx (Zla 0 0 ag_115 sz_115) ?_ ?_
 refine Ztx (Zla 0 0 ag_115 sz_115) ?_ ?_
 refine Xtt (Zsa 2 (p+1) sz_115) ?_
 refine Zty (Zx (p+2) 2 se_81) ?_
 refine Xtt (Zsa 2 (p+2) sz_115) ?_
 refine Zty (Zx (p+3) 3 se_81) ?_
 refine Xtt (Zsa 2 (p+3) sz_115) ?_
 refine GT.nil ?_
 exact k9 [_,_,_,_,_,_,_,_,_,_,_,_] rfl
 refine Xtt (Zsa 2 (p+1) sz_115) ?_
 refine Zty (Zx (p+2) 2 se_81) ?_
 refine Ztx (Zla 0 0 ag_115 sz_115) ?_ ?_
 refine Xtt (Zsa 2 (p+2) sz_115) ?_
 refine Zty (Zx (p+3) 3 se_81) ?_
 refine Xtt (Zsa 2 (p+3) sz_115) ?_
 refine GT.nil ?_
 exact k9 [_,_,_,_,_,_,_,_,_,_,_,_] rfl
 refine Xtt (Zsa 2 (p+2) sz_115) ?_
 refine Xtu (Zla 0 0 ag_115 sz_115) ?_
 refine Zty (Zx (p+3) 3 se_81) ?_
 refine Xtt (Zsa 2 (p+3) sz_115) ?_
 refine GT.nil ?_
 exact k9 [_,_,_,_,_,_,_,_,_,_,_,_] rfl
 refine Ztx (Zla 0 0 ag_115 sz_115) ?_ ?_
 refine Ztx (Zla 0 0 ag_115 sz_115) ?_ ?_
 refine Xtt (Zsa 2 (p+1) sz_115) ?_
 refine Zty (Zx (p+2) 2 se_81) ?_
 refine Xtt (Zsa 2 (p+2) sz_115) ?_
 refine Zty (Zx (p+3) 3 se_81) ?_
 refine Xtt (Zsa 2 (p+3) sz_115) ?_
 refine GT.nil ?_
 exact k9 [_,_,_,_,_,_,_,_,_,_,_,_] rfl
 refine Xtt (Zsa 2 (p+1) sz_115) ?_
 refine Xtu (Zla 0 0 ag_115 sz_115) ?_
 refine Zty (Zx (p+2) 2 se_81) ?_
 refine Xtt (Zsa 2 (p+2) sz_115) ?_
 refine Zty (Zx (p+3) 3 se_81) ?_
 refine Xtt (Zsa 2 (p+3) sz_115) ?_
 refine GT.nil ?_
 exact k9 [_,_,_,_,_,_,_,_,_,_,_,_] rfl
 refine Xtt (Zsa 2 (p+1) sz_115) ?_
 refine Ztx (Zla 0 0 ag_115 sz_115) ?_ ?_
 refine Zty (Zx (p+2) 2 se_81) ?_
 refine Ztx (Zla 0 0 ag_115 sz_115) ?_ ?_
 refine Xtt (Zsa 2 (p+2) sz_115) ?_
 refine Zty (Zx (p+3) 3 se_81) ?_
 refine Xtt (Zsa 2 (p+3) sz_115) ?_
 refine GT.nil ?_
 exact k9 [_,_,_,_,_,_,_,_,_,_,_,_] rfl
 refine Xtt (Zsa 2 (p+2) sz_115) ?_
 refine Xtu (Zla 0 0 ag_115 sz_115) ?_
 refine Zty (Zx (p+3) 3 se_81) ?_
 refine Xtt (Zsa 2 (p+3) sz_115) ?_
 refine GT.nil ?_
 exact k9 [_,_,_,_,_,_,_,_,_,_,_,_] rfl
 refine Xtu (Zla 0 0 ag_115 sz_115) ?_
 refine Xtu (Zla 0 0 ag_115 sz_115) ?_
 refine Zty (Zx (p+2) 2 se_81) ?_
 refine Xtt (Zsa 2 (p+2) sz_115) ?_
 refine Zty (Zx (p+3) 3 se_81) ?_
 refine Xtt (Zsa 2 (p+3) sz_115) ?_
 refine GT.nil ?_
 exact k9 [_,_,_,_,_,_,_,_,_,_,_,_] rfl
 refine Ztx (Zla 0 0 ag_115 sz_115) ?_ ?_
 refine Ztx (Zla 0 0 ag_115 sz_115) ?_ ?_
 refine Zty (Zx (p+1) 1 se_81) ?_
 refine Ztx (Zla 0 0 ag_115 sz_115) ?_ ?_
 refine Xtt (Zsa 2 (p+1) sz_115) ?_
 refine Zty (Zx (p+2) 2 se_81) ?_
 refine Xtt (Zsa 2 (p+2) sz_115) ?_
 refine Zty (Zx (p+3) 3 se_81) ?_
 refine Xtt (Zsa 2 (p+3) sz_115) ?_
 refine GT.nil ?_
 exact k9 [_,_,_,_,_,_,_,_,_,_,_,_] rfl
 refine Xtt (Zsa 2 (p+1) sz_115) ?_
 refine Zty (Zx (p+2) 2 se_81) ?_
 refine Ztx (Zla 0 0 ag_115 sz_115) ?_ ?_
 refine Xtt (Zsa 2 (p+2) sz_115) ?_
 refine Zty (Zx (p+3) 3 se_81) ?_
 refine Xtt (Zsa 2 (p+3) sz_115) ?_
 refine GT.nil ?_
 exact k9 [_,_,_,_,_,_,_,_,_,_,_,_] rfl
 refine Xtt (Zsa 2 (p+2) sz_115) ?_
 refine Xtu (Zla 0 0 ag_115 sz_115) ?_
 refine Zty (Zx (p+3) 3 se_81) ?_
 refine Xtt (Zsa 2 (p+3) sz_115) ?_
 refine GT.nil ?_
 exact k9 [_,_,_,_,_,_,_,_,_,_,_,_] rfl
 refine Xtu (Zla 0 0 ag_115 sz_115) ?_
 refine Xtu (Zla 0 0 ag_115 sz_115) ?_
 refine Zty (Zx (p+1) 1 se_81) ?_
 refine Xtt (Zsa 2 (p+1) sz_115) ?_
 refine Zty (Zx (p+2) 2 se_81) ?_
 refine Xtt (Zsa 2 (p+2) sz_115) ?_
 refine Zty (Zx (p+3) 3 se_81) ?_
 refine Xtt (Zsa 2 (p+3) sz_115) ?_
 refine GT.nil ?_
 exact k9 [_,_,_,_,_,_,_,_,_,_,_,_] rfl
 refine Xtu (Zla 0 0 ag_115 sz_115) ?_
 refine Ztx (Zla 0 0 ag_115 sz_115) ?_ ?_
 refine Zty (Zx (p+1) 1 se_81) ?_
 refine Ztx (Zla 0 0 ag_115 sz_115) ?_ ?_
 refine Xtt (Zsa 2 (p+1) sz_115) ?_
 refine Zty (Zx (p+2) 2 se_81) ?_
 refine Xtt (Zsa 2 (p+2) sz_115) ?_
 refine Zty (Zx (p+3) 3 se_81) ?_
 refine Xtt (Zsa 2 (p+3) sz_115) ?_
 refine GT.nil ?_
 exact k9 [_,_,_,_,_,_,_,_,_,_,_,_] rfl
 refine Xtt (Zsa 2 (p+1) sz_115) ?_
 refine Xtu (Zla 0 0 ag_115 sz_115) ?_
 refine Zty (Zx (p+2) 2 se_81) ?_
 refine Xtt (Zsa 2 (p+2) sz_115) ?_
 refine Zty (Zx (p+3) 3 se_81) ?_
 refine Xtt (Zsa 2 (p+3) sz_115) ?_
 refine GT.nil ?_
 exact k9 [_,_,_,_,_,_,_,_,_,_,_,_] rfl
 refine Xtu (Zla 0 0 ag_115 sz_115) ?_
 refine Xtu (Zla 0 0 ag_115 sz_115) ?_
 refine Zty (Zx (p+1) 1 se_81) ?_
 refine Xtt (Zsa 2 (p+1) sz_115) ?_
 refine Zty (Zx (p+2) 2 se_81) ?_
 refine Xtt (Zsa 2 (p+2) sz_115) ?_
 refine Zty (Zx (p+3) 3 se_81) ?_
 refine Xtt (Zsa 2 (p+3) sz_115) ?_
 refine GT.nil ?_
 exact k9 [_,_,_,_,_,_,_,_,_,_,_,_] rfl
 refine Ztx (Zla 0 0 ag_115 sz_115) ?_ ?_
 refine Ztx (Zla 0 0 ag_115 sz_115) ?_ ?_
 refine Zty (Zx p 0 se_81) ?_
 refine Ztx (Zla 0 0 ag_115 sz_115) ?_ ?_
 refine Ztx (Zla 0 0 ag_115 sz_115) ?_ ?_
 refine Xtt (Zsa 2 p sz_115) ?_
 refine Zty (Zx (p+1) 1 se_81) ?_
 refine Xtt (Zsa 2 (p+1) sz_115) ?_
 refine Zty (Zx (p+2) 2 se_81) ?_
 refine Xtt (Zsa 2 (p+2) sz_115) ?_
 refine Zty (Zx (p+3) 3 se_81) ?_
 refine Xtt (Zsa 2 (p+3) sz_115) ?_
 refine GT.nil ?_
 exact k9 [_,_,_,_,_,_,_,_,_,_,_,_] rfl
 refine Xtt (Zsa 2 p sz_115) ?_
 refine Zty (Zx (p+1) 1 se_81) ?_
 refine Ztx (Zla 0 0 ag_115 sz_115) ?_ ?_
 refine Xtt (Zsa 2 (p+1) sz_115) ?_
 refine Zty (Zx (p+2) 2 se_81) ?_
 refine Xtt (Zsa 2 (p+2) sz_115) ?_
 refine Zty (Zx (p+3) 3 se_81) ?_
 refine Xtt (Zsa 2 (p+3) sz_115) ?_
 refine GT.nil ?_
 exact k9 [_,_,_,_,_,_,_,_,_,_,_,_] rfl
 refine Xtt (Zsa 2 (p+1) sz_115) ?_
 refine Zty (Zx (p+2) 2 se_81) ?_
 refine Ztx (Zla 0 0 ag_115 sz_115) ?_ ?_
 refine Xtt (Zsa 2 (p+2) sz_115) ?_
 refine Zty (Zx (p+3) 3 se_81) ?_
 refine Xtt (Zsa 2 (p+3) sz_115) ?_
 refine GT.nil ?_
 exact k9 [_,_,_,_,_,_,_,_,_,_,_,_] rfl
 refine Xtt (Zsa 2 (p+2) sz_115) ?_
 refine Xtu (Zla 0 0 ag_115 sz_115) ?_
 refine Zty (Zx (p+3) 3 se_81) ?_
 refine Xtt (Zsa 2 (p+3) sz_115) ?_
 refine GT.nil ?_
 exact k9 [_,_,_,_,_,_,_,_,_,_,_,_] rfl
 refine Ztx (Zla 0 0 ag_115 sz_115) ?_ ?_
 refine Ztx (Zla 0 0 ag_115 sz_115) ?_ ?_
 refine Xtt (Zsa 2 p sz_115) ?_
 refine Zty (Zx (p+1) 1 se_81) ?_
 refine Xtt (Zsa 2 (p+1) sz_115) ?_
 refine Zty (Zx (p+2) 2 se_81) ?_
 refine Xtt (Zsa 2 (p+2) sz_115) ?_
 refine Zty (Zx (p+3) 3 se_81) ?_
 refine Xtt (Zsa 2 (p+3) sz_115) ?_
 refine GT.nil ?_
 exact k9 [_,_,_,_,_,_,_,_,_,_,_,_] rfl
 refine Xtt (Zsa 2 p sz_115) ?_
 refine Zty (Zx (p+1) 1 se_81) ?_
 refine Ztx (Zla 0 0 ag_115 sz_115) ?_ ?_
 refine Xtt (Zsa 2 (p+1) sz_115) ?_
 refine Zty (Zx (p+2) 2 se_81) ?_
 refine Xtt (Zsa 2 (p+2) sz_115) ?_
 refine Zty (Zx (p+3) 3 se_81) ?_
 refine Xtt (Zsa 2 (p+3) sz_115) ?_
 refine GT.nil ?_
 exact k9 [_,_,_,_,_,_,_,_,_,_,_,_] rfl
 refine Xtt (Zsa 2 (p+1) sz_115) ?_
 refine Xtu (Zla 0 0 ag_115 sz_115) ?_
 refine Zty (Zx (p+2) 2 se_81) ?_
 refine Xtt (Zsa 2 (p+2) sz_115) ?_
 refine Zty (Zx (p+3) 3 se_81) ?_
 refine Xtt (Zsa 2 (p+3) sz_115) ?_
 refine GT.nil ?_
 exact k9 [_,_,_,_,_,_,_,_,_,_,_,_] rfl
 refine Xtt (Zsa 2 p sz_115) ?_
 refine Zty (Zx (p+1) 1 se_81) ?_
 refine Ztx (Zla 0 0 ag_115 sz_115) ?_ ?_
 refine Ztx (Zla 0 0 ag_115 sz_115) ?_ ?_
 refine Xtt (Zsa 2 (p+1) sz_115) ?_
 refine Zty (Zx (p+2) 2 se_81) ?_
 refine Xtt (Zsa 2 (p+2) sz_115) ?_
 refine Zty (Zx (p+3) 3 se_81) ?_
 refine Xtt (Zsa 2 (p+3) sz_115) ?_
 refine GT.nil ?_
 exact k9 [_,_,_,_,_,_,_,_,_,_,_,_] rfl
 refine Xtt (Zsa 2 (p+1) sz_115) ?_
 refine Zty (Zx (p+2) 2 se_81) ?_
 refine Ztx (Zla 0 0 ag_115 sz_115) ?_ ?_
 refine Xtt (Zsa 2 (p+2) sz_115) ?_
 refine Zty (Zx (p+3) 3 se_81) ?_
 refine Xtt (Zsa 2 (p+3) sz_115) ?_
 refine GT.nil ?_
 exact k9 [_,_,_,_,_,_,_,_,_,_,_,_] rfl
 refine Xtt (Zsa 2 (p+2) sz_115) ?_
 refine Xtu (Zla 0 0 ag_115 sz_115) ?_
 refine Zty (Zx (p+3) 3 se_81) ?_
 refine Xtt (Zsa 2 (p+3) sz_115) ?_
 refine GT.nil ?_
 exact k9 [_,_,_,_,_,_,_,_,_,_,_,_] rfl
 refine Ztx (Zla 0 0 ag_115 sz_115) ?_ ?_
 refine Ztx (Zla 0 0 ag_115 sz_115) ?_ ?_
 refine Xtt (Zsa 2 (p+1) sz_115) ?_
 refine Zty (Zx (p+2) 2 se_81) ?_
 refine Xtt (Zsa 2 (p+2) sz_115) ?_
 refine Zty (Zx (p+3) 3 se_81) ?_
 refine Xtt (Zsa 2 (p+3) sz_115) ?_
 refine GT.nil ?_
 exact k9 [_,_,_,_,_,_,_,_,_,_,_,_] rfl
 refine Xtt (Zsa 2 (p+1) sz_115) ?_
 refine Xtu (Zla 0 0 ag_115 sz_115) ?_
 refine Zty (Zx (p+2) 2 se_81) ?_
 refine Xtt (Zsa 2 (p+2) sz_115) ?_
 refine Zty (Zx (p+3) 3 se_81) ?_
 refine Xtt (Zsa 2 (p+3) sz_115) ?_
 refine GT.nil ?_
 exact k9 [_,_,_,_,_,_,_,_,_,_,_,_] rfl
 refine Xtt (Zsa 2 (p+1) sz_115) ?_
 refine Ztx (Zla 0 0 ag_115 sz_115) ?_ ?_
 refine Zty (Zx (p+2) 2 se_81) ?_
 refine Ztx (Zla 0 0 ag_115 sz_115) ?_ ?_
 refine Xtt (Zsa 2 (p+2) sz_115) ?_
 refine Zty (Zx (p+3) 3 se_81) ?_
 refine Xtt (Zsa 2 (p+3) sz_115) ?_
 refine GT.nil ?_
 exact k9 [_,_,_,_,_,_,_,_,_,_,_,_] rfl
 refine Xtt (Zsa 2 (p+2) sz_115) ?_
 refine Xtu (Zla 0 0 ag_115 sz_115) ?_
 refine Zty (Zx (p+3) 3 se_81) ?_
 refine Xtt (Zsa 2 (p+3) sz_115) ?_
 refine GT.nil ?_
 exact k9 [_,_,_,_,_,_,_,_,_,_,_,_] rfl
 refine Xtu (Zla 0 0 ag_115 sz_115) ?_
 refine Xtu (Zla 0 0 ag_115 sz_115) ?_
 refine Zty (Zx (p+2) 2 se_81) ?_
 refine Xtt (Zsa 2 (p+2) sz_115) ?_
 refine Zty (Zx (p+3) 3 se_81) ?_
 refine Xtt (Zsa 2 (p+3) sz_115) ?_
 refine GT.nil ?_
 exact k9 [_,_,_,_,_,_,_,_,_,_,_,_] rfl
 refine Ztx (Zla 0 0 ag_115 sz_115) ?_ ?_
 refine Ztx (Zla 0 0 ag_115 sz_115) ?_ ?_
 refine Zty (Zx p 0 se_81) ?_
 refine Ztx (Zla 0 0 ag_115 sz_115) ?_ ?_
 refine Xtt (Zsa 2 p sz_115) ?_
 refine Zty (Zx (p+1) 1 se_81) ?_
 refine Xtt (Zsa 2 (p+1) sz_115) ?_
 refine Zty (Zx (p+2) 2 se_81) ?_
 refine Xtt (Zsa 2 (p+2) sz_115) ?_
 refine Zty (Zx (p+3) 3 se_81) ?_
 refine Xtt (Zsa 2 (p+3) sz_115) ?_
 refine GT.nil ?_
 exact k9 [_,_,_,_,_,_,_,_,_,_,_,_] rfl
 refine Xtt (Zsa 2 p sz_115) ?_
 refine Zty (Zx (p+1) 1 se_81) ?_
 refine Ztx (Zla 0 0 ag_115 sz_115) ?_ ?_
 refine Xtt (Zsa 2 (p+1) sz_115) ?_
 refine Zty (Zx (p+2) 2 se_81) ?_
 refine Xtt (Zsa 2 (p+2) sz_115) ?_
 refine Zty (Zx (p+3) 3 se_81) ?_
 refine Xtt (Zsa 2 (p+3) sz_115) ?_
 refine GT.nil ?_
 exact k9 [_,_,_,_,_,_,_,_,_,_,_,_] rfl
 refine Xtt (Zsa 2 (p+1) sz_115) ?_
 refine Zty (Zx (p+2) 2 se_81) ?_
 refine Ztx (Zla 0 0 ag_115 sz_115) ?_ ?_
 refine Xtt (Zsa 2 (p+2) sz_115) ?_
 refine Zty (Zx (p+3) 3 se_81) ?_
 refine Xtt (Zsa 2 (p+3) sz_115) ?_
 refine GT.nil ?_
 exact k9 [_,_,_,_,_,_,_,_,_,_,_,_] rfl
 refine Xtt (Zsa 2 (p+2) sz_115) ?_
 refine Xtu (Zla 0 0 ag_115 sz_115) ?_
 refine Zty (Zx (p+3) 3 se_81) ?_
 refine Xtt (Zsa 2 (p+3) sz_115) ?_
 refine GT.nil ?_
 exact k9 [_,_,_,_,_,_,_,_,_,_,_,_] rfl
 refine Xtu (Zla 0 0 ag_115 sz_115) ?_
 refine Xtu (Zla 0 0 ag_115 sz_115) ?_
 refine Zty (Zx p 0 se_81) ?_
 refine Xtt (Zsa 2 p sz_115) ?_
 refine Zty (Zx (p+1) 1 se_81) ?_
 refine Xtt (Zsa 2 (p+1) sz_115) ?_
 refine Zty (Zx (p+2) 2 se_81) ?_
 refine Xtt (Zsa 2 (p+2) sz_115) ?_
 refine Zty (Zx (p+3) 3 se_81) ?_
 refine Xtt (Zsa 2 (p+3) sz_115) ?_
 refine GT.nil ?_
 exact k9 [_,_,_,_,_,_,_,_,_,_,_,_] rfl
 refine Xtu (Zla 0 0 ag_115 sz_115) ?_
 refine Ztx (Zla 0 0 ag_115 sz_115) ?_ ?_
 refine Zty (Zx p 0 se_81) ?_
 refine Ztx (Zla 0 0 ag_115 sz_115) ?_ ?_
 refine Xtt (Zsa 2 p sz_115) ?_
 refine Zty (Zx (p+1) 1 se_81) ?_
 refine Xtt (Zsa 2 (p+1) sz_115) ?_
 refine Zty (Zx (p+2) 2 se_81) ?_
 refine Xtt (Zsa 2 (p+2) sz_115) ?_
 refine Zty (Zx (p+3) 3 se_81) ?_
 refine Xtt (Zsa 2 (p+3) sz_115) ?_
 refine GT.nil ?_
 exact k9 [_,_,_,_,_,_,_,_,_,_,_,_] rfl
 refine Xtt (Zsa 2 p sz_115) ?_
 refine Zty (Zx (p+1) 1 se_81) ?_
 refine Ztx (Zla 0 0 ag_115 sz_115) ?_ ?_
 refine Xtt (Zsa 2 (p+1) sz_115) ?_
 refine Zty (Zx (p+2) 2 se_81) ?_
 refine Xtt (Zsa 2 (p+2) sz_115) ?_
 refine Zty (Zx (p+3) 3 se_81) ?_
 refine Xtt (Zsa 2 (p+3) sz_115) ?_
 refine GT.nil ?_
 exact k9 [_,_,_,_,_,_,_,_,_,_,_,_] rfl
 refine Xtt (Zsa 2 (p+1) sz_115) ?_
 refine Xtu (Zla 0 0 ag_115 sz_115) ?_
 refine Zty (Zx (p+2) 2 se_81) ?_
 refine Xtt (Zsa 2 (p+2) sz_115) ?_
 refine Zty (Zx (p+3) 3 se_81) ?_
 refine Xtt (Zsa 2 (p+3) sz_115) ?_
 refine GT.nil ?_
 exact k9 [_,_,_,_,_,_,_,_,_,_,_,_] rfl
 refine Xtu (Zla 0 0 ag_115 sz_115) ?_
 refine Xtu (Zla 0 0 ag_115 sz_115) ?_
 refine Zty (Zx p 0 se_81) ?_
 refine Xtt (Zsa 2 p sz_115) ?_
 refine Zty (Zx (p+1) 1 se_81) ?_
 refine Xtt (Zsa 2 (p+1) sz_115) ?_
 refine Zty (Zx (p+2) 2 se_81) ?_
 refine Xtt (Zsa 2 (p+2) sz_115) ?_
 refine Zty (Zx (p+3) 3 se_81) ?_
 refine Xtt (Zsa 2 (p+3) sz_115) ?_
 refine GT.nil ?_
 exact k9 [_,_,_,_,_,_,_,_,_,_,_,_] rfl
 refine Ztx (Zla 0 0 ag_115 sz_115) ?_ ?_
 refine Ztx (Zla 0 0 ag_115 sz_115) ?_ ?_
 refine Zty (Zx p 0 se_81) ?_
 refine Ztx (Zla 0 0 ag_115 sz_115) ?_ ?_
 refine Ztx (Zla 0 0 ag_115 sz_115) ?_ ?_
 refine Xtt (Zsa 2 p sz_115) ?_
 refine Zty (Zx (p+1) 1 se_81) ?_
 refine Xtt (Zsa 2 (p+1) sz_115) ?_
 refine Zty (Zx (p+2) 2 se_81) ?_
 refine Xtt (Zsa 2 (p+2) sz_115) ?_
 refine Zty (Zx (p+3) 3 se_81) ?_
 refine Xtt (Zsa 2 (p+3) sz_115) ?_
 refine GT.nil ?_
 exact k9 [_,_,_,_,_,_,_,_,_,_,_,_] rfl
 refine Xtt (Zsa 2 p sz_115) ?_
 refine Zty (Zx (p+1) 1 se_81) ?_
 refine Ztx (Zla 0 0 ag_115 sz_115) ?_ ?_
 refine Xtt (Zsa 2 (p+1) sz_115) ?_
 refine Zty (Zx (p+2) 2 se_81) ?_
 refine Xtt (Zsa 2 (p+2) sz_115) ?_
 refine Zty (Zx (p+3) 3 se_81) ?_
 refine Xtt (Zsa 2 (p+3) sz_115) ?_
 refine GT.nil ?_
 exact k9 [_,_,_,_,_,_,_,_,_,_,_,_] rfl
 refine Xtt (Zsa 2 (p+1) sz_115) ?_
 refine Zty (Zx (p+2) 2 se_81) ?_
 refine Ztx (Zla 0 0 ag_115 sz_115) ?_ ?_
 refine Xtt (Zsa 2 (p+2) sz_115) ?_
 refine Zty (Zx (p+3) 3 se_81) ?_
 refine Xtt (Zsa 2 (p+3) sz_115) ?_
 refine GT.nil ?_
 exact k9 [_,_,_,_,_,_,_,_,_,_,_,_] rfl
 refine Xtt (Zsa 2 (p+2) sz_115) ?_
 refine Xtu (Zla 0 0 ag_115 sz_115) ?_
 refine Zty (Zx (p+3) 3 se_81) ?_
 refine Xtt (Zsa 2 (p+3) sz_115) ?_
 refine GT.nil ?_
 exact k9 [_,_,_,_,_,_,_,_,_,_,_,_] rfl
 refine Ztx (Zla 0 0 ag_115 sz_115) ?_ ?_
 refine Ztx (Zla 0 0 ag_115 sz_115) ?_ ?_
 refine Xtt (Zsa 2 p sz_115) ?_
 refine Zty (Zx (p+1) 1 se_81) ?_
 refine Xtt (Zsa 2 (p+1) sz_115) ?_
 refine Zty (Zx (p+2) 2 se_81) ?_
 refine Xtt (Zsa 2 (p+2) sz_115) ?_
 refine Zty (Zx (p+3) 3 se_81) ?_
 refine Xtt (Zsa 2 (p+3) sz_115) ?_
 refine GT.nil ?_
 exact k9 [_,_,_,_,_,_,_,_,_,_,_,_] rfl
 refine Xtt (Zsa 2 p sz_115) ?_
 refine Xtu (Zla 0 0 ag_115 sz_115) ?_
 refine Zty (Zx (p+1) 1 se_81) ?_
 refine Xtt (Zsa 2 (p+1) sz_115) ?_
 refine Zty (Zx (p+2) 2 se_81) ?_
 refine Xtt (Zsa 2 (p+2) sz_115) ?_
 refine Zty (Zx (p+3) 3 se_81) ?_
 refine Xtt (Zsa 2 (p+3) sz_115) ?_
 refine GT.nil ?_
 exact k9 [_,_,_,_,_,_,_,_,_,_,_,_] rfl
 refine Xtt (Zsa 2 p sz_115) ?_
 refine Ztx (Zla 0 0 ag_115 sz_115) ?_ ?_
 refine Zty (Zx (p+1) 1 se_81) ?_
 refine Ztx (Zla 0 0 ag_115 sz_115) ?_ ?_
 refine Xtt (Zsa 2 (p+1) sz_115) ?_
 refine Zty (Zx (p+2) 2 se_81) ?_
 refine Xtt (Zsa 2 (p+2) sz_115) ?_
 refine Zty (Zx (p+3) 3 se_81) ?_
 refine Xtt (Zsa 2 (p+3) sz_115) ?_
 refine GT.nil ?_
 exact k9 [_,_,_,_,_,_,_,_,_,_,_,_] rfl
 refine Xtt (Zsa 2 (p+1) sz_115) ?_
 refine Zty (Zx (p+2) 2 se_81) ?_
 refine Ztx (Zla 0 0 ag_115 sz_115) ?_ ?_
 refine Xtt (Zsa 2 (p+2) sz_115) ?_
 refine Zty (Zx (p+3) 3 se_81) ?_
 refine Xtt (Zsa 2 (p+3) sz_115) ?_
 refine GT.nil ?_
 exact k9 [_,_,_,_,_,_,_,_,_,_,_,_] rfl
 refine Xtt (Zsa 2 (p+2) sz_115) ?_
 refine Xtu (Zla 0 0 ag_115 sz_115) ?_
 refine Zty (Zx (p+3) 3 se_81) ?_
 refine Xtt (Zsa 2 (p+3) sz_115) ?_
 refine GT.nil ?_
 exact k9 [_,_,_,_,_,_,_,_,_,_,_,_] rfl
 refine Xtu (Zla 0 0 ag_115 sz_115) ?_
 refine Xtu (Zla 0 0 ag_115 sz_115) ?_
 refine Zty (Zx (p+1) 1 se_81) ?_
 refine Xtt (Zsa 2 (p+1) sz_115) ?_
 refine Zty (Zx (p+2) 2 se_81) ?_
 refine Xtt (Zsa 2 (p+2) sz_115) ?_
 refine Zty (Zx (p+3) 3 se_81) ?_
 refine Xtt (Zsa 2 (p+3) sz_115) ?_
 refine GT.nil ?_
 exact k9 [_,_,_,_,_,_,_,_,_,_,_,_] rfl
 refine Ztx (Zla 0 0 ag_115 sz_115) ?_ ?_
 refine Ztx (Zla 0 0 ag_115 sz_115) ?_ ?_
 refine Zty (Zx p 0 se_81) ?_
 refine Ztx (Zla 0 0 ag_115 sz_115) ?_ ?_
 refine Xtt (Zsa 2 p sz_115) ?_
 refine Zty (Zx (p+1) 1 se_81) ?_
 refine Xtt (Zsa 2 (p+1) sz_115) ?_
 refine Zty (Zx (p+2) 2 se_81) ?_
 refine Xtt (Zsa 2 (p+2) sz_115) ?_
 refine Zty (Zx (p+3) 3 se_81) ?_
 refine Xtt (Zsa 2 (p+3) sz_115) ?_
 refine GT.nil ?_
 exact k9 [_,_,_,_,_,_,_,_,_,_,_,_] rfl
 refine Xtt (Zsa 2 p sz_115) ?_
 refine Zty (Zx (p+1) 1 se_81) ?_
 refine Ztx (Zla 0 0 ag_115 sz_115) ?_ ?_
 refine Xtt (Zsa 2 (p+1) sz_115) ?_
 refine Zty (Zx (p+2) 2 se_81) ?_
 refine Xtt (Zsa 2 (p+2) sz_115) ?_
 refine Zty (Zx (p+3) 3 se_81) ?_
 refine Xtt (Zsa 2 (p+3) sz_115) ?_
 refine GT.nil ?_
 exact k9 [_,_,_,_,_,_,_,_,_,_,_,_] rfl
 refine Xtt (Zsa 2 (p+1) sz_115) ?_
 refine Zty (Zx (p+2) 2 se_81) ?_
 refine Ztx (Zla 0 0 ag_115 sz_115) ?_ ?_
 refine Xtt (Zsa 2 (p+2) sz_115) ?_
 refine Zty (Zx (p+3) 3 se_81) ?_
 refine Xtt (Zsa 2 (p+3) sz_115) ?_
 refine GT.nil ?_
 exact k9 [_,_,_,_,_,_,_,_,_,_,_,_] rfl
 refine Xtt (Zsa 2 (p+2) sz_115) ?_
 refine Xtu (Zla 0 0 ag_115 sz_115) ?_
 refine Zty (Zx (p+3) 3 se_81) ?_
 refine Xtt (Zsa 2 (p+3) sz_115) ?_
 refine GT.nil ?_
 exact k9 [_,_,_,_,_,_,_,_,_,_,_,_] rfl
 refine Xtu (Zla 0 0 ag_115 sz_115) ?_
 refine Xtu (Zla 0 0 ag_115 sz_115) ?_
 refine Zty (Zx p 0 se_81) ?_
 refine Xtt (Zsa 2 p sz_115) ?_
 refine Zty (Zx (p+1) 1 se_81) ?_
 refine Xtt (Zsa 2 (p+1) sz_115) ?_
 refine Zty (Zx (p+2) 2 se_81) ?_
 refine Xtt (Zsa 2 (p+2) sz_115) ?_
 refine Zty (Zx (p+3) 3 se_81) ?_
 refine Xtt (Zsa 2 (p+3) sz_115) ?_
 refine GT.nil ?_
 exact k9 [_,_,_,_,_,_,_,_,_,_,_,_] rfl
 refine Xtu (Zla 0 0 ag_115 sz_115) ?_
 refine Ztx (Zla 0 0 ag_115 sz_115) ?_ ?_
 refine Zty (Zx p 0 se_81) ?_
 refine Ztx (Zla 0 0 ag_115 sz_115) ?_ ?_
 refine Xtt (Zsa 2 p sz_115) ?_
 refine Zty (Zx (p+1) 1 se_81) ?_
 refine Xtt (Zsa 2 (p+1) sz_115) ?_
 refine Zty (Zx (p+2) 2 se_81) ?_
 refine Xtt (Zsa 2 (p+2) sz_115) ?_
 refine Zty (Zx (p+3) 3 se_81) ?_
 refine Xtt (Zsa 2 (p+3) sz_115) ?_
 refine GT.nil ?_
 exact k9 [_,_,_,_,_,_,_,_,_,_,_,_] rfl
 refine Xtt (Zsa 2 p sz_115) ?_
 refine Xtu (Zla 0 0 ag_115 sz_115) ?_
 refine Zty (Zx (p+1) 1 se_81) ?_
 refine Xtt (Zsa 2 (p+1) sz_115) ?_
 refine Zty (Zx (p+2) 2 se_81) ?_
 refine Xtt (Zsa 2 (p+2) sz_115) ?_
 refine Zty (Zx (p+3) 3 se_81) ?_
 refine Xtt (Zsa 2 (p+3) sz_115) ?_
 refine GT.nil ?_
 exact k9 [_,_,_,_,_,_,_,_,_,_,_,_] rfl
 refine Xtu (Zla 0 0 ag_115 sz_115) ?_
 refine Xtu (Zla 0 0 ag_115 sz_115) ?_
 refine Zty (Zx p 0 se_81) ?_
 refine Xtt (Zsa 2 p sz_115) ?_
 refine Zty (Zx (p+1) 1 se_81) ?_
 refine Xtt (Zsa 2 (p+1) sz_115) ?_
 refine Zty (Zx (p+2) 2 se_81) ?_
 refine Xtt (Zsa 2 (p+2) sz_115) ?_
 refine Zty (Zx (p+3) 3 se_81) ?_
 refine Xtt (Zsa 2 (p+3) sz_115) ?_
 refine GT.nil ?_
 exact k9 [_,_,_,_,_,_,_,_,_,_,_,_] rfl
 refine Xtu (Zla 0 0 ag_115 sz_115) ?_
 refine Ztx (Zla 0 0 ag_115 sz_115) ?_ ?_
 refine Zty (Zx p 0 se_81) ?_
 refine Ztx (Zla 0 0 ag_115 sz_115) ?_ ?_
 refine Ztx (Zla 0 0 ag_115 sz_115) ?_ ?_
 refine Xtt (Zsa 2 p sz_115) ?_
 refine Zty (Zx (p+1) 1 se_81) ?_
 refine Xtt (Zsa 2 (p+1) sz_115) ?_
 refine Zty (Zx (p+2) 2 se_81) ?_
 refine Xtt (Zsa 2 (p+2) sz_115) ?_
 refine Zty (Zx (p+3) 3 se_81) ?_
 refine Xtt (Zsa 2 (p+3) sz_115) ?_
 refine GT.nil ?_
 exact k9 [_,_,_,_,_,_,_,_,_,_,_,_] rfl
 refine Xtt (Zsa 2 p sz_115) ?_
 refine Zty (Zx (p+1) 1 se_81) ?_
 refine Ztx (Zla 0 0 ag_115 sz_115) ?_ ?_
 refine Xtt (Zsa 2 (p+1) sz_115) ?_
 refine Zty (Zx (p+2) 2 se_81) ?_
 refine Xtt (Zsa 2 (p+2) sz_115) ?_
 refine Zty (Zx (p+3) 3 se_81) ?_
 refine Xtt (Zsa 2 (p+3) sz_115) ?_
 refine GT.nil ?_
 exact k9 [_,_,_,_,_,_,_,_,_,_,_,_] rfl
 refine Xtt (Zsa 2 (p+1) sz_115) ?_
 refine Xtu (Zla 0 0 ag_115 sz_115) ?_
 refine Zty (Zx (p+2) 2 se_81) ?_
 refine Xtt (Zsa 2 (p+2) sz_115) ?_
 refine Zty (Zx (p+3) 3 se_81) ?_
 refine Xtt (Zsa 2 (p+3) sz_115) ?_
 refine GT.nil ?_
 exact k9 [_,_,_,_,_,_,_,_,_,_,_,_] rfl
 refine Ztx (Zla 0 0 ag_115 sz_115) ?_ ?_
 refine Ztx (Zla 0 0 ag_115 sz_115) ?_ ?_
 refine Xtt (Zsa 2 p sz_115) ?_
 refine Zty (Zx (p+1) 1 se_81) ?_
 refine Xtt (Zsa 2 (p+1) sz_115) ?_
 refine Zty (Zx (p+2) 2 se_81) ?_
 refine Xtt (Zsa 2 (p+2) sz_115) ?_
 refine Zty (Zx (p+3) 3 se_81) ?_
 refine Xtt (Zsa 2 (p+3) sz_115) ?_
 refine GT.nil ?_
 exact k9 [_,_,_,_,_,_,_,_,_,_,_,_] rfl
 refine Xtt (Zsa 2 p sz_115) ?_
 refine Xtu (Zla 0 0 ag_115 sz_115) ?_
 refine Zty (Zx (p+1) 1 se_81) ?_
 refine Xtt (Zsa 2 (p+1) sz_115) ?_
 refine Zty (Zx (p+2) 2 se_81) ?_
 refine Xtt (Zsa 2 (p+2) sz_115) ?_
 refine Zty (Zx (p+3) 3 se_81) ?_
 refine Xtt (Zsa 2 (p+3) sz_115) ?_
 refine GT.nil ?_
 exact k9 [_,_,_,_,_,_,_,_,_,_,_,_] rfl
 refine Xtt (Zsa 2 p sz_115) ?_
 refine Ztx (Zla 0 0 ag_115 sz_115) ?_ ?_
 refine Zty (Zx (p+1) 1 se_81) ?_
 refine Ztx (Zla 0 0 ag_115 sz_115) ?_ ?_
 refine Xtt (Zsa 2 (p+1) sz_115) ?_
 refine Zty (Zx (p+2) 2 se_81) ?_
 refine Xtt (Zsa 2 (p+2) sz_115) ?_
 refine Zty (Zx (p+3) 3 se_81) ?_
 refine Xtt (Zsa 2 (p+3) sz_115) ?_
 refine GT.nil ?_
 exact k9 [_,_,_,_,_,_,_,_,_,_,_,_] rfl
 refine Xtt (Zsa 2 (p+1) sz_115) ?_
 refine Xtu (Zla 0 0 ag_115 sz_115) ?_
 refine Zty (Zx (p+2) 2 se_81) ?_
 refine Xtt (Zsa 2 (p+2) sz_115) ?_
 refine Zty (Zx (p+3) 3 se_81) ?_
 refine Xtt (Zsa 2 (p+3) sz_115) ?_
 refine GT.nil ?_
 exact k9 [_,_,_,_,_,_,_,_,_,_,_,_] rfl
 refine Xtu (Zla 0 0 ag_115 sz_115) ?_
 refine Xtu (Zla 0 0 ag_115 sz_115) ?_
 refine Zty (Zx (p+1) 1 se_81) ?_
 refine Xtt (Zsa 2 (p+1) sz_115) ?_
 refine Zty (Zx (p+2) 2 se_81) ?_
 refine Xtt (Zsa 2 (p+2) sz_115) ?_
 refine Zty (Zx (p+3) 3 se_81) ?_
 refine Xtt (Zsa 2 (p+3) sz_115) ?_
 refine GT.nil ?_
 exact k9 [_,_,_,_,_,_,_,_,_,_,_,_] rfl
 refine Ztx (Zla 0 0 ag_115 sz_115) ?_ ?_
 refine Ztx (Zla 0 0 ag_115 sz_115) ?_ ?_
 refine Zty (Zx p 0 se_81) ?_
 refine Ztx (Zla 0 0 ag_115 sz_115) ?_ ?_
 refine Xtt (Zsa 2 p sz_115) ?_
 refine Zty (Zx (p+1) 1 se_81) ?_
 refine Xtt (Zsa 2 (p+1) sz_115) ?_
 refine Zty (Zx (p+2) 2 se_81) ?_
 refine Xtt (Zsa 2 (p+2) sz_115) ?_
 refine Zty (Zx (p+3) 3 se_81) ?_
 refine Xtt (Zsa 2 (p+3) sz_115) ?_
 refine GT.nil ?_
 exact k9 [_,_,_,_,_,_,_,_,_,_,_,_] rfl
 refine Xtt (Zsa 2 p sz_115) ?_
 refine Zty (Zx (p+1) 1 se_81) ?_
 refine Ztx (Zla 0 0 ag_115 sz_115) ?_ ?_
 refine Xtt (Zsa 2 (p+1) sz_115) ?_
 refine Zty (Zx (p+2) 2 se_81) ?_
 refine Xtt (Zsa 2 (p+2) sz_115) ?_
 refine Zty (Zx (p+3) 3 se_81) ?_
 refine Xtt (Zsa 2 (p+3) sz_115) ?_
 refine GT.nil ?_
 exact k9 [_,_,_,_,_,_,_,_,_,_,_,_] rfl
 refine Xtt (Zsa 2 (p+1) sz_115) ?_
 refine Xtu (Zla 0 0 ag_115 sz_115) ?_
 refine Zty (Zx (p+2) 2 se_81) ?_
 refine Xtt (Zsa 2 (p+2) sz_115) ?_
 refine Zty (Zx (p+3) 3 se_81) ?_
 refine Xtt (Zsa 2 (p+3) sz_115) ?_
 refine GT.nil ?_
 exact k9 [_,_,_,_,_,_,_,_,_,_,_,_] rfl
 refine Xtu (Zla 0 0 ag_115 sz_115) ?_
 refine Xtu (Zla 0 0 ag_115 sz_115) ?_
 refine Zty (Zx p 0 se_81) ?_
 refine Xtt (Zsa 2 p sz_115) ?_
 refine Zty (Zx (p+1) 1 se_81) ?_
 refine Xtt (Zsa 2 (p+1) sz_115) ?_
 refine Zty (Zx (p+2) 2 se_81) ?_
 refine Xtt (Zsa 2 (p+2) sz_115) ?_
 refine Zty (Zx (p+3) 3 se_81) ?_
 refine Xtt (Zsa 2 (p+3) sz_115) ?_
 refine GT.nil ?_
 exact k9 [_,_,_,_,_,_,_,_,_,_,_,_] rfl
 refine Xtu (Zla 0 0 ag_115 sz_115) ?_
 refine Ztx (Zla 0 0 ag_115 sz_115) ?_ ?_
 refine Zty (Zx p 0 se_81) ?_
 refine Ztx (Zla 0 0 ag_115 sz_115) ?_ ?_
 refine Xtt (Zsa 2 p sz_115) ?_
 refine Zty (Zx (p+1) 1 se_81) ?_
 refine Xtt (Zsa 2 (p+1) sz_115) ?_
 refine Zty (Zx (p+2) 2 se_81) ?_
 refine Xtt (Zsa 2 (p+2) sz_115) ?_
 refine Zty (Zx (p+3) 3 se_81) ?_
 refine Xtt (Zsa 2 (p+3) sz_115) ?_
 refine GT.nil ?_
 exact k9 [_,_,_,_,_,_,_,_,_,_,_,_] rfl
 refine Xtt (Zsa 2 p sz_115) ?_
 refine Xtu (Zla 0 0 ag_115 sz_115) ?_
 refine Zty (Zx (p+1) 1 se_81) ?_
 refine Xtt (Zsa 2 (p+1) sz_115) ?_
 refine Zty (Zx (p+2) 2 se_81) ?_
 refine Xtt (Zsa 2 (p+2) sz_115) ?_
 refine Zty (Zx (p+3) 3 se_81) ?_
 refine Xtt (Zsa 2 (p+3) sz_115) ?_
 refine GT.nil ?_
 exact k9 [_,_,_,_,_,_,_,_,_,_,_,_] rfl
 refine Xtu (Zla 0 0 ag_115 sz_115) ?_
 refine Xtu (Zla 0 0 ag_115 sz_115) ?_
 refine Zty (Zx p 0 se_81) ?_
 refine Xtt (Zsa 2 p sz_115) ?_
 refine Zty (Zx (p+1) 1 se_81) ?_
 refine Xtt (Zsa 2 (p+1) sz_115) ?_
 refine Zty (Zx (p+2) 2 se_81) ?_
 refine Xtt (Zsa 2 (p+2) sz_115) ?_
 refine Zty (Zx (p+3) 3 se_81) ?_
 refine Xtt (Zsa 2 (p+3) sz_115) ?_
 refine GT.nil ?_
 exact k9 [_,_,_,_,_,_,_,_,_,_,_,_] rfl
set_option maxHeartbeats 8000000 in
theorem c_ReadTable (bi so:Nat) (shi:Shp) (xs:List Nat) (ki li ci:Nat) (hci:li≤ci) (hk:ki+li≤xs.length) (hz:xs.length≤1152921504606846976) (hb:Bytes xs) (ls ys:List Nat) (L last:Nat) (hH:HW ls L last) (hW:WholeL ls) (hE:EvenAll ls) (hTr:TreeC ls ys L last) (hyl:ys.length=li) (hxy:∀i,i<li→xs.getD (ki+i) 0=ys.getD i 0):Con Tryz.prog 21 [Vs bi (so+ki) li ci,(Value.pointer none)] [] [⟨bi,so,(nats .u8 xs),shi⟩] (fun v l'=>∃bS bF bo bn bc bt,∃qz:Option Addr,∃cz:Nat,∃W F:List Nat,v=.tuple #[Vp bS 0,.slice qz 0 cz,.nilIface]∧Tab F L (cdL ls) (Has ls)∧F.length=2048∧l'=[⟨bS,0,nats .u32 (List.replicate 256 0),some (91,535)⟩,⟨bS,256,[Vs bo 0 0 0,.slice none 0 0,.slice none 0 0,Vh 262143,Vh 0,Va 255,Va 11,Va 0,Va 0,Vb (last+1),Vh 0,.bool false,Va L,Va L,Vs bc 0 (last+1) 256,.slice none 0 0,Vs bt 0 2048 2048,Vs bn 0 0 513,.slice none 0 0,.slice none 0 0,.slice none 0 0,.slice none 0 0,Vp bF 0],none⟩,⟨bS,279,nats .u8 W,none⟩,⟨bt,0,nats .u16 F,none⟩]):=by
 refine Zi Tryz.func21 rfl fun w0=>?_
 refine Y5 ?_
 refine Z4 ?_
 obtain⟨ws,hws⟩:∃z,z=weightsOf ls L last:=⟨_,rfl⟩
 obtain⟨aw,haw⟩:∃z,z=allW ls L last:=⟨_,rfl⟩
 obtain⟨nl,hnl⟩:∃z,z=ls.getD last 0:=⟨_,rfl⟩
 have hF:=WFacts.of hH hW hE hws haw hnl
 obtain⟨x0,hx0⟩:∃z,xs.getD ki 0=z:=⟨_,rfl⟩
 have hLl:=hF.L1
 have hl1:=hF.last1
 have hnl1:=hF.nl1
 have hlt9:=hH.lt
 obtain⟨h2li,hcase⟩:=hTr.at_ Om Om hyl hxy hx0
 rw[←hws] at hcase
 have hwl:=hF.wl
 have hx8:=hb.at_ ki
 rw[hx0] at hx8
 refine YG ?_
 refine Zcp [] [] c_h_prepare rfl ?_
 rintro _ _ ⟨bS,bF,bo,bn,rfl,rfl⟩
 refine Ya ?_
 refine Y3 ?_
 refine Yy (y_neNilNil rfl rfl un_52) ?_
 refine Zn (G.condF rfl (Z7 (Y6 ?_)))
 refine Yy (Zlen un_22) ?_
 refine Yy (Zle li 1) ?_
 refine Zn ?_
 refine G.condDF rfl Om ?_
 refine Y8 ?_
 refine Yy (Zx (so+ki) 0 se_22) ?_
 refine Yr (Zqr x0 (Zkc 0 ki ag_5 rfl (nats_get Oy)) hx0) ?_
 refine Y2 ?_
 refine Yy (y_slL (q':=so+(ki+1)) (lo:=1) rfl rfl rfl se_22 Om Om) ?_
 refine Y3 ?_
 refine Yy (Zge x0 128) ?_
 refine Zn ?_
 refine G.meetK (fun ρ l=>∃tz:Option Addr × Nat,∃W2:List Nat,(W2.length=256)∧(∀j,j<last→W2.getD j 0=ws.getD j 0)∧ρ=[(0,.slice tz.1 0 tz.2),(1,Vp bS 0),(62,.bool (decide (((128:Nat):Int)≤((x0:Nat):Int))))]∧l=[⟨bS,0,(nats .u32 (List.replicate 256 0)),(some (91,535))⟩,⟨bS,256,[Vs bo 0 0 0,.slice none 0 0,.slice none 0 0,Vh 262143,Vh 0,Va 255,Va 11,Va 0,Va 0,Vb last,Vh 0,.bool false,Va 0,Va 0,.slice none 0 0,.slice none 0 0,.slice none 0 0,Vs bn 0 0 513,.slice none 0 0,.slice none 0 0,.slice none 0 0,.slice none 0 0,Vp bF 0],none⟩,⟨bS,279,(nats .u8 W2),none⟩]) ?_ ?_
 refine Zc (fun h2=>?_) (fun h2=>?_)
 obtain⟨hN1,hN2,hN3,hN4⟩:=hcase.resolve_right (fun ⟨cs,b,_,_,_,_,h9,_⟩=>Om)
 refine Y5 ?_
 refine Yy (Zq last (ZsubNa x0 127)) ?_
 refine Y2 ?_
 refine Yy (ZaddNa last 1) ?_
 refine Yy (ZquoNa (last+1) 2) ?_
 refine Y3 ?_
 refine Yy (ZcvNh ((last+1)/2) un_5 un_3) ?_
 refine Yy (Zlen un_22) ?_
 refine Yy (Zgt ((last+1)/2) (li-1)) ?_
 refine Zn ?_
 refine G.condDF rfl Om ?_
 refine Z7 (Y6 ?_)
 refine Zn (G.block ?_)
 refine Zo (fun mz ρ l=>∃n:Nat,∃W:List Nat,mz=last+2-n∧(n%2=0∧n≤last+1)∧(W.length=256)∧(∀j,j<n→W.getD j 0=ws.getD j 0)∧ρ=[(0,Vs bi (so+(ki+1)) (li-1) (ci-1)),(1,Vp bS 0),(4,(Value.pointer none)),(5,.slice none 0 0),(6,Value.nilIface),(7,Va ((last+1)/2)),(8,Va last),(9,Va n),(62,.bool (decide (((128:Nat):Int)≤((x0:Nat):Int))))]∧l=[⟨bS,0,(nats .u32 (List.replicate 256 0)),(some (91,535))⟩,⟨bS,256,[Vs bo 0 0 0,.slice none 0 0,.slice none 0 0,Vh 262143,Vh 0,Va 255,Va 11,Va 0,Va 0,Vb 0,Vh 0,.bool false,Va 0,Va 0,.slice none 0 0,.slice none 0 0,.slice none 0 0,Vs bn 0 0 513,.slice none 0 0,.slice none 0 0,.slice none 0 0,.slice none 0 0,Vp bF 0],none⟩,⟨bS,279,(nats .u8 W),none⟩,⟨bF,0,(nats .u32 (List.replicate 256 0)),none⟩,⟨bF,256,(nats .i16 (List.replicate 256 0)),none⟩,⟨bF,512,[.slice none 0 0,Vh 0],none⟩,⟨bF,514,[.slice none 0 0,Vd 0,Vd 0,Va 0],none⟩,⟨bF,518,[Vd 0,Va 0,.slice none 0 0,.slice none 0 0,.slice none 0 0,.slice none 0 0,.slice none 0 0,Vh 0,.slice none 0 0,Vh 0,Vb 0,Va 0,.bool false,.bool false,Va 0,Va 0],none⟩]) ⟨0,(List.replicate 256 0),rfl,⟨rfl,Om⟩,Oi,(fun j hj=>Om),rfl,rfl⟩ ?_
 rintro _ _ _ ⟨n,W,rfl,hn,hWl,hWn,rfl,rfl⟩
 refine Y6 ?_
 refine Yy (Zlt n last) ?_
 refine Zn ?_
 refine Zc (fun h1=>?_) (fun h1=>?_)
 refine Z7 (G.seq (G.block (G.seq ?_)))
 obtain⟨v0,hv0⟩:∃z,(nib ws).getD (n/2) 0=z:=⟨_,rfl⟩
 have hnb:=nib_get ws (n/2) (fun x hx=>by have:=hF.wL x hx;omega)
 rw[hv0,show 2*(n/2)=n by omega] at hnb
 refine YG ?_
 refine Yy (ZquoNa n 2) ?_
 refine Yy (Zx (so+(ki+1+(n/2))) (n/2) se_22) ?_
 refine Yr (Zqr v0 (Zkc 0 (ki+1+(n/2)) ag_5 rfl (nats_get Oy)) ((hN4 _ Om).trans hv0)) ?_
 refine Z4 ?_
 have hg1:=AllLe.of hF.wL n
 have hg2:=AllLe.of hF.wL (n+1)
 refine YG ?_
 refine Yy (Zq (ws.getD n 0) (ZshrNa v0 4) (by have:=hnb.1;omega)) ?_
 refine Yy (Zf fo_91_22) ?_
 refine Yy (Zxb (279+n) n ae_89) ?_
 refine Ys (Zsu 2 n sz_5) ?_
 refine Y1 ?_
 refine Yy (ZaddNa n 1) ?_
 refine Yy (Zq (ws.getD (n+1) 0) (ZandNa v0 15) (by rw[and15];exact hnb.2.1)) ?_
 refine Yy (Zf fo_91_22) ?_
 refine Yy (Zxb (279+(n+1)) (n+1) ae_89) ?_
 refine Ys (Zsu 2 (n+1) sz_5) ?_
 refine GL.nil (GQ.blockN (GQ.thenN (YG ?_)))
 refine Yy (ZaddNa n 2) ?_
 refine GL.nil ?_
 exact Zb ⟨(n+2),((W.set n (ws.getD n 0)).set (n+1) (ws.getD (n+1) 0)),rfl,⟨Om,Om⟩,(by rw[List.length_set,List.length_set];exact hWl),(outs_step (outs_step hWn Om rfl) (by rw[List.length_set];omega) rfl),rfl,rfl⟩
 refine G.exit (GQ.thenE (GQ.thenE (GQ.blockE (GQ.thenN (Y5 ?_)))))
 refine Yy (ZcvNb last un_5 un_78) ?_
 refine Yy (Zf fo_91_10) ?_
 refine Ys (Zst 1 9 sz_78) ?_
 refine Y1 ?_
 refine Yy (y_congr (y_slGL (lo:=(last+1)/2) rfl rfl rfl se_22 Om PA.some.nilcap) (slice_eq (a:=(li-1)-((last+1)/2)) (a':=0) (b:=(ci-1)-((last+1)/2)) (b':=(ci-1)-((last+1)/2)) Om rfl)) ?_
 refine GL.nil ?_
 refine GQ.pick [0,0,0] rfl ?_
 exact Zm ⟨(cutA (some ⟨bi,so+(ki+1),none⟩) ((last+1)/2) 1 (ci-1),(ci-1)-((last+1)/2)),W,hWl,(fun j hj=>hWn j Om),rfl,rfl⟩
 obtain⟨cs,b,hP1,hP3,hP2_,hP4,hP7,hP8,hP5,hP6⟩:=hcase.resolve_left (fun h=>by have:=h.2.1;omega)
 have hP2:=hP4
 have hfirst:=hP2_.first
 have hlong:=hP2_.long
 have hf0:=hP5 0 Om
 have hx1:=hb.at_ (ki+1)
 rw[Nat.add_zero] at hf0
 have hP9:=hP2_
 refine Y6 ?_
 refine Yy (Zlen un_22) ?_
 refine Yy (ZcvNh x0 un_5 un_3) ?_
 refine Yy (Zlt (li-1) x0) ?_
 refine Zn ?_
 refine G.condDF rfl Om ?_
 refine Z7 (Y6 ?_)
 refine Yy (Zx (so+(ki+1)) 0 se_22) ?_
 refine Yr (Zkc 0 (ki+1) ag_5 rfl (nats_get Oy)) ?_
 refine Yy (Zq 1 (ZandNa (xs.getD (ki+1) 0) 15) (by rw[and15,hf0];exact hfirst)) ?_
 refine Yy (Zq 6 (ZaddNa 1 5) Od) ?_
 refine Yy (Zgt 6 6) ?_
 refine Zn ?_
 refine G.condDF rfl Od ?_
 refine Y8 ?_
 refine Yy (Zf fo_91_20) ?_
 refine Yr (Zl 1 22 ag_86) ?_
 refine Yy (Zf fo_107_9) ?_
 refine Ys (Zst 7 9 sz_3) ?_
 refine Y2 ?_
 refine Yy (Zf fo_91_22) ?_
 refine Yy (y_slA rfl rfl ae_89) ?_
 refine Y2 ?_
 refine Yy (Zf fo_91_20) ?_
 refine Yr (Zl 1 22 ag_86) ?_
 refine Yy (Zf fo_107_8) ?_
 refine Ys (Zst 7 8 sz_22) ?_
 refine Z4 ?_
 refine Zg 128 [y_0,y_1,y_2,y_3,y_4,y_5,r_6,e_7,y_8,y_9,y_10,y_11,y_12] ?_
 refine Ypa ?_
 refine Ypy (y_slH (hi:=x0) rfl rfl rfl se_22 Om) ?_
 refine Ypy (Zf fo_91_20) ?_
 refine Ypr (Zl 1 22 ag_86) ?_
 refine Zpcp [3,3,3,3,3,2] [2] (c_fse bi so shi xs (ki+1) x0 (ci-1) Om Om Om hb bF (List.replicate 256 0) (List.replicate 256 0) Oi _ _ _ _ _ _ _ _ _ _ _ _ _ bS 279 none (List.replicate 256 0) Oi b cs ws hP5 hP2 hP9 Om hP3 hP6 Om) rfl ?_
 rintro _ _ ⟨b1,b2,b3,nP,W1,rfl,hW1,hW1t,rfl⟩
 refine Ypa ?_
 refine GP.nil (GQ.thenN (Y5 ?_))
 refine Yy (Zf fo_91_20) ?_
 refine Yr (Zl 3 22 ag_86) ?_
 refine Yy (Zf fo_107_8) ?_
 refine Ys (Zst 0 8 sz_22) ?_
 refine Y3 ?_
 refine Yy (y_neNilNil rfl rfl un_52) ?_
 refine Zn (G.condF rfl (Z7 (Y6 ?_)))
 refine Yy (Zlen un_22) ?_
 refine Yy (Zgt ws.length 255) ?_
 refine Zn ?_
 refine G.condDF rfl Om ?_
 refine Y8 ?_
 refine Yy (Zlen un_22) ?_
 refine Yy (Zq last (ZcvNb ws.length un_3 un_78) hwl) ?_
 refine Yy (Zf fo_91_10) ?_
 refine Ys (Zst 3 9 sz_78) ?_
 refine Y1 ?_
 refine Yy (y_congr (y_slGL (lo:=x0) rfl rfl rfl se_22 Om PA.some.nilcap) (slice_eq (a:=(li-1)-x0) (a':=0) (b:=(ci-1)-x0) (b':=(ci-1)-x0) Om rfl)) ?_
 refine GL.nil ?_
 refine GQ.pick [2,2,1] rfl ?_
 exact Zm ⟨(cutA (some ⟨bi,so+(ki+1),none⟩) x0 1 (ci-1),(ci-1)-x0),W1,hW1,(fun j hj=>front_get hW1t Om),rfl,rfl⟩
 rintro _ _ ⟨tz,W2,hWl,hWg,rfl,rfl⟩
 refine GQ.thenN (Y5 ?_)
 refine Ze (Zal zc_110) fun b2=>?_
 refine Y2 ?_
 refine Z4 ?_
 refine Zg 0 [y_0,y_1,y_2,y_3,y_4,y_5,r_6,y_7,y_8] ?_
 refine Ypa ?_
 refine Ypy (Zf fo_91_22) ?_
 refine Ypy (Zf fo_91_10) ?_
 refine Ypr (Zl 2 9 ag_78) ?_
 refine Ypy (y_slAH (hi:=last) rfl rfl rfl ae_89 Om) ?_
 refine GP.nil (GQ.thenN (G.seq (G.block ?_)))
 refine Zo (fun mz ρ l=>∃i seen:Nat,∃H:List Nat,mz=last-i∧(i≤last∧seen<16)∧(Hist H (ws.take i))∧ρ=[(0,.slice tz.1 0 tz.2),(1,Vp bS 0),(14,Vp b2 0),(15,Va seen),(16,Vs bS (279+i) (last-i) (256-i))]∧l=[⟨b2,0,(nats .u32 H),none⟩,⟨bS,0,(nats .u32 (List.replicate 256 0)),(some (91,535))⟩,⟨bS,256,[Vs bo 0 0 0,.slice none 0 0,.slice none 0 0,Vh 262143,Vh 0,Va 255,Va 11,Va 0,Va 0,Vb last,Vh 0,.bool false,Va 0,Va 0,.slice none 0 0,.slice none 0 0,.slice none 0 0,Vs bn 0 0 513,.slice none 0 0,.slice none 0 0,.slice none 0 0,.slice none 0 0,Vp bF 0],none⟩,⟨bS,279,(nats .u8 W2),none⟩]) ⟨0,0,(List.replicate 64 0),rfl,⟨Om,Om⟩,Hist.zero,rfl,rfl⟩ ?_
 rintro _ _ _ ⟨i,seen,H,rfl,hi,hH0,rfl,rfl⟩
 refine Y6 ?_
 refine Yy (Zlen un_22) ?_
 refine Yy (Zge (last-i) 4) ?_
 refine Zn ?_
 refine Zc (fun h3=>?_) (fun h3=>?_)
 refine Z7 (G.seq (G.block (G.seq ?_)))
 have hl4:ws.length=last:=hF.wl
 obtain⟨a0,ha0⟩:∃z,z=ws.getD (i) 0:=⟨_,rfl⟩
 obtain⟨a1,ha1⟩:∃z,z=ws.getD (i+1) 0:=⟨_,rfl⟩
 obtain⟨a2,ha2⟩:∃z,z=ws.getD (i+2) 0:=⟨_,rfl⟩
 obtain⟨a3,ha3⟩:∃z,z=ws.getD (i+3) 0:=⟨_,rfl⟩
 have hb0:a0≤11:=by rw[ha0];have:=AllLe.of hF.wL (i);omega
 have hb1:a1≤11:=by rw[ha1];have:=AllLe.of hF.wL (i+1);omega
 have hb2:a2≤11:=by rw[ha2];have:=AllLe.of hF.wL (i+2);omega
 have hb3:a3≤11:=by rw[ha3];have:=AllLe.of hF.wL (i+3);omega
 have hlH:=hH0.len
 have hti:(ws.take i).length≤255:=by rw[List.length_take];omega
 have hc0:=hH0.le (v:=a0) Om
 have hs16:seen<256:=Om
 refine YG ?_
 refine Yy (Zx (279+i) 0 se_22) ?_
 refine Yr (Zqr a0 (Zlc 3 i ag_5 rfl (nats_get Oy)) ((hWg _ Om).trans ha0.symm)) ?_
 refine Yy (Zq a0 (ZandNa a0 15) (by rw[and15];exact Nat.mod_eq_of_lt Om)) ?_
 refine Yy (Zxa 0 0 ae_110) ?_
 refine Yy (Zxb a0 a0 ae_109) ?_
 refine Yr (r_ld 0 a0 rfl rfl rfl ag_75 (Nat.zero_add _).symm (nats_get Oy)) ?_
 refine Yy (ZaddNc (H.getD a0 0) 1) ?_
 refine Yy (Zxa 0 0 ae_110) ?_
 refine Yy (Zxb a0 a0 ae_109) ?_
 refine Ys (Zsu 0 a0 sz_75) ?_
 refine Z4 ?_
 obtain⟨H1,eH1⟩:∃z,z=H.set a0 ((H.getD a0 0)+1):=⟨_,rfl⟩
 rw[←eH1]
 have hH1:Hist H1 (ws.take i++[a0]):=by rw[eH1];exact hH0.step Om Om
 have hlH1:=hH1.len
 have htl1:(ws.take i++[a0]).length≤259:=by simp;omega
 have hc1:=hH1.le (v:=a1) Om
 refine YG ?_
 refine Yy (Zx (279+(i+1)) 1 se_22) ?_
 refine Yr (Zqr a1 (Zlc 3 (i+1) ag_5 rfl (nats_get Oy)) ((hWg _ Om).trans ha1.symm)) ?_
 refine Yy (Zq a1 (ZandNa a1 15) (by rw[and15];exact Nat.mod_eq_of_lt Om)) ?_
 refine Yy (Zxa 16 1 ae_110) ?_
 refine Yy (Zxb (16+a1) a1 ae_109) ?_
 refine Yr (r_ld 0 (16+a1) rfl rfl rfl ag_75 (Nat.zero_add _).symm (nats_get Oy)) ?_
 refine Yy (ZaddNc (H1.getD (16+a1) 0) 1) ?_
 refine Yy (Zxa 16 1 ae_110) ?_
 refine Yy (Zxb (16+a1) a1 ae_109) ?_
 refine Ys (Zsu 0 (16+a1) sz_75) ?_
 refine Z4 ?_
 obtain⟨H2,eH2⟩:∃z,z=H1.set (16+a1) ((H1.getD (16+a1) 0)+1):=⟨_,rfl⟩
 rw[←eH2]
 have hH2:Hist H2 (ws.take i++[a0]++[a1]):=by rw[eH2];exact hH1.step Om Om
 have hlH2:=hH2.len
 have htl2:(ws.take i++[a0]++[a1]).length≤259:=by simp;omega
 have hc2:=hH2.le (v:=a2) Om
 refine YG ?_
 refine Yy (Zx (279+(i+2)) 2 se_22) ?_
 refine Yr (Zqr a2 (Zlc 3 (i+2) ag_5 rfl (nats_get Oy)) ((hWg _ Om).trans ha2.symm)) ?_
 refine Yy (Zq a2 (ZandNa a2 15) (by rw[and15];exact Nat.mod_eq_of_lt Om)) ?_
 refine Yy (Zxa 32 2 ae_110) ?_
 refine Yy (Zxb (32+a2) a2 ae_109) ?_
 refine Yr (r_ld 0 (32+a2) rfl rfl rfl ag_75 (Nat.zero_add _).symm (nats_get Oy)) ?_
 refine Yy (ZaddNc (H2.getD (32+a2) 0) 1) ?_
 refine Yy (Zxa 32 2 ae_110) ?_
 refine Yy (Zxb (32+a2) a2 ae_109) ?_
 refine Ys (Zsu 0 (32+a2) sz_75) ?_
 refine Z4 ?_
 obtain⟨H3,eH3⟩:∃z,z=H2.set (32+a2) ((H2.getD (32+a2) 0)+1):=⟨_,rfl⟩
 rw[←eH3]
 have hH3:Hist H3 (ws.take i++[a0]++[a1]++[a2]):=by rw[eH3];exact hH2.step Om Om
 have hlH3:=hH3.len
 have htl3:(ws.take i++[a0]++[a1]++[a2]).length≤259:=by simp;omega
 have hc3:=hH3.le (v:=a3) Om
 refine YG ?_
 refine Yy (Zx (279+(i+3)) 3 se_22) ?_
 refine Yr (Zqr a3 (Zlc 3 (i+3) ag_5 rfl (nats_get Oy)) ((hWg _ Om).trans ha3.symm)) ?_
 refine Yy (Zq a3 (ZandNa a3 15) (by rw[and15];exact Nat.mod_eq_of_lt Om)) ?_
 refine Yy (Zxa 48 3 ae_110) ?_
 refine Yy (Zxb (48+a3) a3 ae_109) ?_
 refine Yr (r_ld 0 (48+a3) rfl rfl rfl ag_75 (Nat.zero_add _).symm (nats_get Oy)) ?_
 refine Yy (ZaddNc (H3.getD (48+a3) 0) 1) ?_
 refine Yy (Zxa 48 3 ae_110) ?_
 refine Yy (Zxb (48+a3) a3 ae_109) ?_
 refine Ys (Zsu 0 (48+a3) sz_75) ?_
 refine Zn ?_
 obtain⟨H4,eH4⟩:∃z,z=H3.set (48+a3) ((H3.getD (48+a3) 0)+1):=⟨_,rfl⟩
 rw[←eH4]
 have hH4:Hist H4 (ws.take i++[a0]++[a1]++[a2]++[a3]):=by rw[eH4];exact hH3.step Om Om
 have hlH4:=hH4.len
 have htl4:(ws.take i++[a0]++[a1]++[a2]++[a3]).length≤259:=by simp;omega
 refine Zg 0 [y_0,y_1,y_2,r_3,y_4,y_5,r_6,y_7,y_8,y_9,r_10,y_11,y_12,y_13,r_14,y_15,y_16,y_17] ?_
 refine Ypa ?_
 refine Ypy (Zx (279+i) 0 se_22) ?_
 refine Ypr (Zqr a0 (Zlc 3 i ag_5 rfl (nats_get Oy)) ((hWg _ Om).trans ha0.symm)) ?_
 refine Ypy (Zx (279+(i+1)) 1 se_22) ?_
 refine Ypr (Zqr a1 (Zlc 3 (i+1) ag_5 rfl (nats_get Oy)) ((hWg _ Om).trans ha1.symm)) ?_
 refine Ypy (ZorNa a0 a1) ?_
 refine Ypy (Zx (279+(i+2)) 2 se_22) ?_
 refine Ypr (Zqr a2 (Zlc 3 (i+2) ag_5 rfl (nats_get Oy)) ((hWg _ Om).trans ha2.symm)) ?_
 refine Ypy (orN_u8 (m:=a0|||a1) (n:=a2) rfl rfl rfl (or_lt8 Om Om) Om) ?_
 refine Ypy (Zx (279+(i+3)) 3 se_22) ?_
 refine Ypr (Zqr a3 (Zlc 3 (i+3) ag_5 rfl (nats_get Oy)) ((hWg _ Om).trans ha3.symm)) ?_
 refine Ypy (orN_u8 (m:=(a0|||a1)|||a2) (n:=a3) rfl rfl rfl (or_lt8 (or_lt8 Om Om) Om) Om) ?_
 refine Ypy (orN_u8 (m:=seen) (n:=((a0|||a1)|||a2)|||a3) rfl rfl rfl Om (or_lt8 (or_lt8 (or_lt8 Om Om) Om) Om)) ?_
 refine GP.nil (GQ.blockN (GQ.thenN (YG ?_)))
 refine Yy (y_congr (y_slL (q':=279+(i+4)) (lo:=4) rfl rfl rfl se_22 Om Om) (slice_eq (a:=last-i-4) (a':=last-(i+4)) (b:=256-i-4) (b':=256-(i+4)) Om Om)) ?_
 refine GL.nil ?_
 exact Zb ⟨i+4,(seen|||(((a0|||a1)|||a2)|||a3)),H4,rfl,⟨Om,or_lt16' Om (or_lt16' (or_lt16' (or_lt16' Om Om) Om) Om)⟩,(by have h9:=take4 (text:=ws) (i:=i) Om;rw[←ha0, ←ha1, ←ha2, ←ha3] at h9;rw[←h9];simpa using hH4),rfl,rfl⟩
 refine G.exit (GQ.thenE (GQ.thenE (GQ.blockE (GQ.thenN (Y6 ?_)))))
 refine Yy (Zlen un_22) ?_
 refine Zn (G.block ?_)
 refine Zo (fun mz ρ l=>∃q seen2:Nat,∃H5:List Nat,mz=last-i-q∧(q≤last-i∧seen2<16)∧(Hist H5 (ws.take (i+q)))∧ρ=[(0,.slice tz.1 0 tz.2),(1,Vp bS 0),(14,Vp b2 0),(15,Va seen2),(245,Vs bS (279+i) (last-i) (256-i)),(246,Vh (last-i)),(247,Vh q)]∧l=[⟨b2,0,(nats .u32 H5),none⟩,⟨bS,0,(nats .u32 (List.replicate 256 0)),(some (91,535))⟩,⟨bS,256,[Vs bo 0 0 0,.slice none 0 0,.slice none 0 0,Vh 262143,Vh 0,Va 255,Va 11,Va 0,Va 0,Vb last,Vh 0,.bool false,Va 0,Va 0,.slice none 0 0,.slice none 0 0,.slice none 0 0,Vs bn 0 0 513,.slice none 0 0,.slice none 0 0,.slice none 0 0,.slice none 0 0,Vp bF 0],none⟩,⟨bS,279,(nats .u8 W2),none⟩]) ⟨0,seen,H,rfl,⟨Om,Om⟩,hH0,rfl,rfl⟩ ?_
 rintro _ _ _ ⟨q,seen2,H5,rfl,hq,hH5,rfl,rfl⟩
 refine Y5 ?_
 refine Yy (Zlt q (last-i)) ?_
 refine Z4 ?_
 refine Zc (fun h4=>?_) (fun h4=>?_)
 refine Z7 (G.seq (G.block (G.seq ?_)))
 obtain⟨c,hc⟩:∃z,z=ws.getD (i+q) 0:=⟨_,rfl⟩
 have hc11:c≤11:=by rw[hc];have:=AllLe.of hF.wL (i+q);omega
 have hti:(ws.take (i+q)).length≤255:=by rw[List.length_take];omega
 have hc0:=hH5.le (v:=c) Om
 have hlH:=hH5.len
 refine YG ?_
 refine Yy (Zx (279+(i+q)) q se_22) ?_
 refine Yr (Zqr c (Zlc 3 (i+q) ag_5 rfl (nats_get Oy)) ((hWg _ Om).trans hc.symm)) ?_
 refine Y2 ?_
 refine Yy (Zq c (ZandNa c 15) (by rw[and15];exact Nat.mod_eq_of_lt Om)) ?_
 refine Yy (Zxa 0 0 ae_110) ?_
 refine Yy (Zxb c c ae_109) ?_
 refine Yr (r_ld 0 c rfl rfl rfl ag_75 (Nat.zero_add _).symm (nats_get Oy)) ?_
 refine Yy (ZaddNc (H5.getD c 0) 1) ?_
 refine Yy (Zxa 0 0 ae_110) ?_
 refine Yy (Zxb c c ae_109) ?_
 refine Ys (Zsu 0 c sz_75) ?_
 refine Y1 ?_
 refine Yy (ZorNa seen2 c) ?_
 refine GL.nil (GQ.blockN (GQ.thenN (YG ?_)))
 refine Yy (ZaddNh q 1) ?_
 refine GL.nil ?_
 exact Zb ⟨(q+1),(seen2|||c),(H5.set c ((H5.getD c 0)+1)),rfl,⟨Om,or_lt16' Om Om⟩,(by rw[show i+(q+1)=i+q+1 by omega,take_getD Om, ←hc];exact hH5.step Om Om),rfl,rfl⟩
 refine G.exit (GQ.thenE (GQ.thenE (GQ.blockE (GQ.thenN (G.seq ?_)))))
 rw[List.take_of_length_le Om] at hH5
 have hlH:=hH5.len
 have hs12:=hF.log
 have hsumW:=hF.sum
 have hp11:2^L≤2^11:=Nat.pow_le_pow_right Om Om
 have hpL:=Nat.pow_pos (n:=L-nl) (show 0<2 by omega)
 have hpL1:=Nat.pow_pos (n:=L-1) (show 0<2 by omega)
 refine YG ?_
 refine Ze (Zal zc_109) fun b5=>?_
 refine Y2 ?_
 refine Y3 ?_
 refine Zn (G.block ?_)
 refine Zo (fun mz ρ l=>∃v:Nat,∃R:List Nat,mz=16-v∧(v≤16)∧(R.length=16)∧(Ranks R ws v)∧ρ=[(0,.slice tz.1 0 tz.2),(1,Vp bS 0),(14,Vp b2 0),(15,Va seen2),(19,Vp b5 0),(20,Vc 0),(263,Vh v)]∧l=[⟨b5,0,(nats .u32 R),none⟩,⟨b2,0,(nats .u32 H5),none⟩,⟨bS,0,(nats .u32 (List.replicate 256 0)),(some (91,535))⟩,⟨bS,256,[Vs bo 0 0 0,.slice none 0 0,.slice none 0 0,Vh 262143,Vh 0,Va 255,Va 11,Va 0,Va 0,Vb last,Vh 0,.bool false,Va 0,Va 0,.slice none 0 0,.slice none 0 0,.slice none 0 0,Vs bn 0 0 513,.slice none 0 0,.slice none 0 0,.slice none 0 0,.slice none 0 0,Vp bF 0],none⟩,⟨bS,279,(nats .u8 W2),none⟩]) ⟨0,(List.replicate 16 0),rfl,Om,Oi,(fun v hv=>Om),rfl,rfl⟩ ?_
 rintro _ _ _ ⟨v,R,rfl,hv,hRl,hR,rfl,rfl⟩
 refine Y5 ?_
 refine Yy (Zlt v 16) ?_
 refine Z4 ?_
 refine Zc (fun h6=>?_) (fun h6=>?_)
 refine Z7 (G.seq (G.block (Y5 ?_)))
 refine Zn ?_
 have hsv:=hH5.sum v Om
 have hcl:=List.count_le_length (a:=v) (l:=ws)
 refine Zg 2097152 [y_0,y_1,y_2,y_3,r_4,y_5,y_6,y_7,r_8,y_9,y_10,y_11,y_12,r_13,y_14,y_15,y_16,y_17,r_18,y_19,y_20,e_21] ?_
 refine Ypa ?_
 refine Ypy (Zxa 0 0 ae_110) ?_
 refine Ypy (Zxb v v ae_109) ?_
 refine Ypr (r_ld 1 v rfl rfl rfl ag_75 (Nat.zero_add _).symm (nats_get Oy)) ?_
 refine Ypy (Zxa 16 1 ae_110) ?_
 refine Ypy (Zxb (16+v) v ae_109) ?_
 refine Ypr (r_ld 1 (16+v) rfl rfl rfl ag_75 (Nat.zero_add _).symm (nats_get Oy)) ?_
 refine Ypy (ZaddNc (H5.getD v 0) (H5.getD (16+v) 0)) ?_
 refine Ypy (Zxa 32 2 ae_110) ?_
 refine Ypy (Zxb (32+v) v ae_109) ?_
 refine Ypr (r_ld 1 (32+v) rfl rfl rfl ag_75 (Nat.zero_add _).symm (nats_get Oy)) ?_
 refine Ypy (ZaddNc ((H5.getD v 0)+(H5.getD (16+v) 0)) (H5.getD (32+v) 0)) ?_
 refine Ypy (Zxa 48 3 ae_110) ?_
 refine Ypy (Zxb (48+v) v ae_109) ?_
 refine Ypr (r_ld 1 (48+v) rfl rfl rfl ag_75 (Nat.zero_add _).symm (nats_get Oy)) ?_
 refine Ypy (Zq (ws.count v) (ZaddNc (((H5.getD v 0)+(H5.getD (16+v) 0))+(H5.getD (32+v) 0)) (H5.getD (48+v) 0)) hsv) ?_
 refine Ypy (Zxb v v ae_109) ?_
 refine Yps (Zsu 0 v sz_75) ?_
 refine GP.nil (GQ.blockN (GQ.thenN (YG ?_)))
 refine Yy (ZaddNh v 1) ?_
 refine GL.nil ?_
 exact Zb ⟨(v+1),(R.set v (ws.count v)),rfl,Om,(by rw[List.length_set];exact hRl),(hR.step Om rfl),rfl,rfl⟩
 refine G.exit (GQ.thenE (GQ.thenE (GQ.blockE (GQ.thenN (G.seq (G.seq ?_))))))
 have hv16:v=16:=Om
 rw[hv16] at hR
 refine YG ?_
 refine Zn (G.block ?_)
 refine Zo (fun mz ρ l=>∃v2 tot:Nat,mz=16-v2∧(1≤v2∧v2≤16)∧(tot=startW ws v2)∧ρ=[(0,.slice tz.1 0 tz.2),(1,Vp bS 0),(15,Va seen2),(19,Vp b5 0),(20,Vc tot),(22,Vh v2)]∧l=[⟨b5,0,(nats .u32 R),none⟩,⟨b2,0,(nats .u32 H5),none⟩,⟨bS,0,(nats .u32 (List.replicate 256 0)),(some (91,535))⟩,⟨bS,256,[Vs bo 0 0 0,.slice none 0 0,.slice none 0 0,Vh 262143,Vh 0,Va 255,Va 11,Va 0,Va 0,Vb last,Vh 0,.bool false,Va 0,Va 0,.slice none 0 0,.slice none 0 0,.slice none 0 0,Vs bn 0 0 513,.slice none 0 0,.slice none 0 0,.slice none 0 0,.slice none 0 0,Vp bF 0],none⟩,⟨bS,279,(nats .u8 W2),none⟩]) ⟨1,0,rfl,Om,rfl,rfl,rfl⟩ ?_
 rintro _ _ _ ⟨v2,tot,rfl,hv2,htot,rfl,rfl⟩
 refine Y6 ?_
 refine Yy (Zlt v2 16) ?_
 refine Zn ?_
 refine Zc (fun h7=>?_) (fun h7=>?_)
 refine Z7 (G.seq (G.block ?_))
 have hrt:=rank_term (i:=v2) hF.wL Om Om
 refine YG ?_
 refine Yy (Zxb v2 v2 ae_109) ?_
 refine Yr (Zqr (ws.count v2) (r_ld 0 v2 rfl rfl rfl ag_75 (Nat.zero_add _).symm (nats_get Oy)) (hR _ Om)) ?_
 refine Yy (ZsubNh v2 1) ?_
 refine Yy (ZshlNc (ws.count v2) (v2-1)) ?_
 refine Yy (ZaddNc tot ((ws.count v2)*2^(v2-1))) ?_
 refine GL.nil (GQ.blockN (GQ.thenN (YG ?_)))
 refine Yy (ZaddNh v2 1) ?_
 refine GL.nil ?_
 exact Zb ⟨(v2+1),(tot+((ws.count v2)*2^(v2-1))),rfl,Om,Om,rfl,rfl⟩
 refine G.exit (GQ.thenE (GQ.thenE (GQ.blockE (GQ.thenN (G.seq (G.seq ?_))))))
 have hv216:v2=16:=Om
 have htot2:tot=cellsW ws:=by rw[htot,hv216];exact startW_all (L:=15) ws (fun w hw=>by have:=hF.wL w hw;omega)
 rw[←htot2] at hs12 hsumW
 have hz12:R.getD 12 0=0:=(hR 12 Om).trans (count_none hF.wL Om)
 have hz13:R.getD 13 0=0:=(hR 13 Om).trans (count_none hF.wL Om)
 have hz14:R.getD 14 0=0:=(hR 14 Om).trans (count_none hF.wL Om)
 have hz15:R.getD 15 0=0:=(hR 15 Om).trans (count_none hF.wL Om)
 refine YG ?_
 refine Zy (Zgt seen2 15) ?_
 refine Za 1 ?_
 refine GL.knowF (t:=302) (p:=((15:Nat):Int)<((seen2:Nat):Int)) rfl Om ?_
 refine Yy (Zxb 12 12 ae_109) ?_
 refine Yr (Zqr 0 (Zlc 0 12 ag_75 rfl (nats_get Oy)) hz12) ?_
 refine Yy (Zxb 13 13 ae_109) ?_
 refine Yr (Zqr 0 (Zlc 0 13 ag_75 rfl (nats_get Oy)) hz13) ?_
 refine Yy (Zq 0 (ZorNc 0 0) rfl) ?_
 refine Yy (Zxb 14 14 ae_109) ?_
 refine Yr (Zqr 0 (Zlc 0 14 ag_75 rfl (nats_get Oy)) hz14) ?_
 refine Yy (Zq 0 (ZorNc 0 0) rfl) ?_
 refine Yy (Zxb 15 15 ae_109) ?_
 refine Yr (Zqr 0 (Zlc 0 15 ag_75 rfl (nats_get Oy)) hz15) ?_
 refine Yy (Zq 0 (ZorNc 0 0) rfl) ?_
 refine Yy (Zne 0 0) ?_
 refine Zn ?_
 refine G.condDF rfl Od ?_
 refine Z7 (Y6 ?_)
 refine Yy (Zeq tot 0) ?_
 refine Zn ?_
 refine G.condDF rfl Om ?_
 refine Z7 (Y6 ?_)
 refine Zcc [] [] (c_highBit32 tot Om Om) rfl ?_
 refine Yy (Zq L (ZaddNc (blen tot-1) 1)) ?_
 refine Y3 ?_
 refine Yy (Zgt L 11) ?_
 refine Zn ?_
 refine G.condDF rfl Om ?_
 refine Y8 ?_
 refine Yy (ZcvNa L un_75 un_5) ?_
 refine Yy (Zf fo_91_13) ?_
 refine Ys (Zst 3 12 sz_5) ?_
 refine Y2 ?_
 refine Yy (Zq (2^L) (ZshlNc 1 L) (Nat.one_mul _)) ?_
 refine Y2 ?_
 refine Yy (Zq (2^(L-nl)) (ZsubNc (2^L) tot)) ?_
 refine Z4 ?_
 have hbp:=blen_pow (L-nl)
 refine YG ?_
 refine Zcc [] [] (c_highBit32 (2^(L-nl)) Om Om) rfl ?_
 refine Yy (Zq (2^(L-nl)) (ZshlWc 1 (blen (2^(L-nl))-1)) (by rw[hbp,Nat.add_sub_cancel,Nat.one_mul,Nat.mod_eq_of_lt Om])) ?_
 refine Y2 ?_
 refine Zcc [] [] (c_highBit32 (2^(L-nl)) Om Om) rfl ?_
 refine Yy (Zq (L-nl+1) (ZaddNc (blen (2^(L-nl))-1) 1)) ?_
 refine Y3 ?_
 refine Yy (Zne (2^(L-nl)) (2^(L-nl))) ?_
 refine Zn ?_
 refine G.condDF rfl Om ?_
 refine Z7 (G.seq ?_)
 refine Zg 1024 [y_0,y_1,y_2,y_3,r_4,y_5,y_6,y_7,y_8,y_9,e_10] ?_
 refine Ypa ?_
 refine Ypy (Zf fo_91_10) ?_
 refine Ypr (Zl 3 9 ag_78) ?_
 refine Ypy (ZcvNa (L-nl+1) un_75 un_5) ?_
 refine Ypy (Zf fo_91_22) ?_
 refine Ypy (Zxb (279+last) last ae_89) ?_
 refine Yps (Zsu 4 last sz_5) ?_
 refine GP.nil (GQ.thenN (Y5 ?_))
 refine Yy (Zf fo_91_10) ?_
 refine Yr (Zl 3 9 ag_78) ?_
 refine Yy (ZaddNb last 1) ?_
 refine Yy (Zf fo_91_10) ?_
 refine Ys (Zst 3 9 sz_78) ?_
 refine Zn ?_
 have hRc:=hR (L-nl+1) Om
 have hcl:=List.count_le_length (a:=L-nl+1) (l:=ws)
 refine YG ?_
 refine Yy (Zxb (L-nl+1) (L-nl+1) ae_109) ?_
 refine Yr (r_ld 0 (L-nl+1) rfl rfl rfl ag_75 (Nat.zero_add _).symm (nats_get Oy)) ?_
 refine Yy (ZaddNc (R.getD (L-nl+1) 0) 1) ?_
 refine Yy (Zxb (L-nl+1) (L-nl+1) ae_109) ?_
 refine Ys (Zsu 0 (L-nl+1) sz_75) ?_
 refine Z4 (G.seq ?_)
 obtain⟨R2,eR2⟩:∃z,z=R.set (L-nl+1) ((R.getD (L-nl+1) 0)+1):=⟨_,rfl⟩
 rw[←eR2]
 have hR2:Ranks R2 aw 16:=by rw[eR2,hF.ea];exact hR.last Om Om
 have hR2l:R2.length=16:=by rw[eR2,List.length_set];exact hRl
 have hev:=hF.ev
 have h1c:=hR2 1 Om
 have hcl1:=List.count_le_length (a:=1) (l:=aw)
 have hal1:=hF.al
 refine YG ?_
 refine Yy (Zxb 1 1 ae_109) ?_
 refine Yr (Zqr (aw.count 1) (Zlc 0 1 ag_75 rfl (nats_get Oy)) h1c) ?_
 refine Zy (Zlt (aw.count 1) 2) ?_
 refine Za 1 ?_
 refine GL.knowF (t:=375) (p:=((aw.count 1:Nat):Int)<((2:Nat):Int)) rfl Om ?_
 refine Yy (Zxb 1 1 ae_109) ?_
 refine Yr (Zqr (aw.count 1) (Zlc 0 1 ag_75 rfl (nats_get Oy)) h1c) ?_
 refine Yy (Zq (aw.count 1%2) (ZandNc (aw.count 1) 1) (Nat.and_one_is_mod _)) ?_
 refine Yy (Zne (aw.count 1%2) 0) ?_
 refine Zn ?_
 refine G.condDF rfl Om ?_
 refine Z7 (Y6 ?_)
 refine Y2 ?_
 refine Zn (G.block ?_)
 refine Zo (fun mz ρ l=>∃v5 nx:Nat,∃R5:List Nat,mz=L+2-v5∧(1≤v5∧v5≤L+1)∧(nx=startW aw v5)∧(R5.length=16)∧(Begins R5 aw v5)∧ρ=[(0,.slice tz.1 0 tz.2),(1,Vp bS 0),(19,Vp b5 0),(28,Vc nx),(29,Va v5)]∧l=[⟨b5,0,(nats .u32 R5),none⟩,⟨b2,0,(nats .u32 H5),none⟩,⟨bS,0,(nats .u32 (List.replicate 256 0)),(some (91,535))⟩,⟨bS,256,[Vs bo 0 0 0,.slice none 0 0,.slice none 0 0,Vh 262143,Vh 0,Va 255,Va 11,Va 0,Va 0,Vb (last+1),Vh 0,.bool false,Va L,Va 0,.slice none 0 0,.slice none 0 0,.slice none 0 0,Vs bn 0 0 513,.slice none 0 0,.slice none 0 0,.slice none 0 0,.slice none 0 0,Vp bF 0],none⟩,⟨bS,279,(nats .u8 (W2.set last (L-nl+1))),none⟩]) ⟨1,0,R2,rfl,Om,rfl,hR2l,(Begins.init hR2),rfl,rfl⟩ ?_
 rintro _ _ _ ⟨v5,nx,R5,rfl,hv5,hnx,hR5l,hB5,rfl,rfl⟩
 refine Y6 ?_
 refine Yy (Zf fo_91_13) ?_
 refine Yr (Zl 3 12 ag_5) ?_
 refine Yy (ZaddNa L 1) ?_
 refine Yy (Zlt v5 (L+1)) ?_
 refine Zn ?_
 refine Zc (fun h8=>?_) (fun h8=>?_)
 refine Z7 (G.seq (G.block (G.seq ?_)))
 have hsumA:=hF.suma
 have hrt:=rank_term (i:=v5) hF.aL Om Om
 refine YG ?_
 refine Y2 ?_
 refine Yy (Zxb v5 v5 ae_109) ?_
 refine Yr (Zqr (aw.count v5) (r_ld 0 v5 rfl rfl rfl ag_75 (Nat.zero_add _).symm (nats_get Oy)) (hB5.high _ Om Om)) ?_
 refine Yy (ZsubNa v5 1) ?_
 refine Yy (ZshlNc (aw.count v5) (v5-1)) ?_
 refine Yy (ZaddNc nx ((aw.count v5)*2^(v5-1))) ?_
 refine Y1 ?_
 refine Yy (Zxb v5 v5 ae_109) ?_
 refine Ys (Zsu 0 v5 sz_75) ?_
 refine GL.nil (GQ.blockN (GQ.thenN (YG ?_)))
 refine Yy (ZaddNa v5 1) ?_
 refine GL.nil ?_
 exact Zb ⟨(v5+1),(nx+((aw.count v5)*2^(v5-1))),(R5.set v5 nx),rfl,Om,Om,(by rw[List.length_set];exact hR5l),(hB5.step hR5l Om hnx),rfl,rfl⟩
 refine G.exit (GQ.thenE (GQ.thenE (GQ.blockE (GQ.thenN (Y5 ?_)))))
 refine Y3 ?_
 refine Yy (Zf fo_91_17) ?_
 refine Yy (Zf fo_83_0) ?_
 refine Yr (Zl 3 16 ag_81) ?_
 refine Yy (Zlen un_81) ?_
 refine Yy (Zne 0 2048) ?_
 refine Zn ?_
 refine G.condDT rfl Od ?_
 refine YG ?_
 refine Ze (e_mkN (m:=2048) (c:=2048) rfl rfl rfl el_81 (by first|omega|decide) rfl rfl) fun b9=>?_
 refine Ya ?_
 refine Yy (Zf fo_91_17) ?_
 refine Yy (Zf fo_83_0) ?_
 refine Ys (Zst 4 16 sz_81) ?_
 refine Y2 ?_
 refine Yy (Zf fo_91_15) ?_
 refine Yr (Zl 4 14 ag_80) ?_
 refine Y3 ?_
 refine Yy (y_cap rfl rfl rfl rfl un_80) ?_
 refine Yy (Zlt 0 256) ?_
 refine Zn ?_
 refine G.condDT rfl Od ?_
 refine YG ?_
 refine Ze (e_mkk (m:=0) (c:=256) rfl rfl rfl el_79 rfl Od (by first|omega|decide) rfl rfl) fun b10=>?_
 refine Ya ?_
 refine Y2 ?_
 refine Yy (y_slH (hi:=256) rfl rfl rfl se_80 Om) ?_
 refine Y2 ?_
 refine Yy (Zf fo_91_10) ?_
 refine Yr (Zl 5 9 ag_78) ?_
 refine Yy (y_slH (hi:=last+1) rfl rfl rfl se_80 Om) ?_
 refine Yy (Zf fo_91_15) ?_
 refine Ys (Zst 5 14 sz_80) ?_
 refine Y2 ?_
 refine Yy (Zf fo_91_13) ?_
 refine Yr (Zl 5 12 ag_5) ?_
 refine Yy (Zf fo_91_14) ?_
 refine Ys (Zst 5 13 sz_5) ?_
 refine Z4 (G.seq ?_)
 obtain⟨W3,eW3⟩:∃z,z=W2.set last (L-nl+1):=⟨_,rfl⟩
 rw[←eW3]
 have hW3l:W3.length=256:=by rw[eW3,List.length_set];exact hWl
 have hWa:∀j,j<last+1→W3.getD j 0=aw.getD j 0:=fun j hj=>by rw[eW3];exact last_get hWg hF.wl Om hF.ea hj
 have hal:=hF.al
 have hv5e:v5=L+1:=Om
 have hst5:∀w,0<w→w≤L→R5.getD w 0=startW aw w:=fun w h1 h2=>hB5.low w Om Om
 have hok:=fill_ok hF.L1.2 hF.aL hR5l hst5 hF.suma (show(List.replicate 2048 0).length=2048 by simp)
 have hTab:=tab_ls hH hW hE hR5l (dt:=List.replicate 2048 0) (by rw[←haw];exact hst5) Oi
 obtain⟨F,hFd⟩:∃z,z=fillT L 0 aw R5 (List.replicate 2048 0):=⟨_,rfl⟩
 rw[←haw, ←hFd] at hTab
 have hF0:Fill L aw 0 R5 (List.replicate 2048 0) F:=⟨by rw[List.drop_zero,hFd],by rw[List.drop_zero];exact hok,Oi⟩
 refine Zg 0 [y_0,y_1,y_2,y_3,y_4,y_5,r_6,y_7,y_8,y_9] ?_
 refine Ypa ?_
 refine Ypy (Zf fo_91_22) ?_
 refine Ypy (Zf fo_91_10) ?_
 refine Ypr (Zl 5 9 ag_78) ?_
 refine Ypy (y_slAH (hi:=last+1) rfl rfl rfl ae_89 Om) ?_
 refine Ypy (Zlen un_22) ?_
 refine GP.nil (GQ.thenN (G.block ?_))
 refine Zo (fun mz ρ l=>∃n:Nat,∃R6 D6:List Nat,∃CT:List Value,mz=last+1-n∧(n≤last+1)∧(R6.length=16)∧(CT.length=512)∧(Fill L aw n R6 D6 F)∧ρ=[(0,.slice tz.1 0 tz.2),(1,Vp bS 0),(19,Vp b5 0),(32,Vs b10 0 256 256),(451,Vs bS 279 (last+1) 256),(452,Vh (last+1)),(453,Vh n)]∧l=[⟨b10,0,CT,none⟩,⟨b9,0,(nats .u16 D6),none⟩,⟨b5,0,(nats .u32 R6),none⟩,⟨b2,0,(nats .u32 H5),none⟩,⟨bS,0,(nats .u32 (List.replicate 256 0)),(some (91,535))⟩,⟨bS,256,[Vs bo 0 0 0,.slice none 0 0,.slice none 0 0,Vh 262143,Vh 0,Va 255,Va 11,Va 0,Va 0,Vb (last+1),Vh 0,.bool false,Va L,Va L,Vs b10 0 (last+1) 256,.slice none 0 0,Vs b9 0 2048 2048,Vs bn 0 0 513,.slice none 0 0,.slice none 0 0,.slice none 0 0,.slice none 0 0,Vp bF 0],none⟩,⟨bS,279,(nats .u8 W3),none⟩]) ⟨0,R5,(List.replicate 2048 0),((List.replicate 256 [Vb 0,Va 0]).flatten),rfl,Om,hR5l,Oi,hF0,rfl,rfl⟩ ?_
 rintro _ _ _ ⟨n,R6,D6,CT,rfl,hn,hR6l,hCT,hF6,rfl,rfl⟩
 refine Y5 ?_
 refine Yy (Zlt n (last+1)) ?_
 refine Z4 ?_
 refine Zc (fun h11=>?_) (fun h11=>?_)
 refine Z7 (G.seq (G.block (G.seq ?_)))
 obtain⟨w,hw0⟩:∃z,z=aw.getD n 0:=⟨_,rfl⟩
 have hwL:w≤L:=by rw[hw0];exact AllLe.of hF.aL n
 refine YG ?_
 refine Yy (Zx (279+n) n se_22) ?_
 refine Yr (Zqr w (Zlc 6 n ag_5 rfl (nats_get Oy)) ((hWa _ Om).trans hw0.symm)) ?_
 refine Y3 ?_
 refine Yy (Zeq w 0) ?_
 refine Zn ?_
 refine Zc (fun h22=>?_) (fun h22=>?_)
 refine Y5 ?_
 refine Yy (y_bd (ps:=[(0,.const (Vb 0)),(1,.const (Va 0))]) (pv:=[(0,Vb 0),(1,Va 0)]) (vs:=[Vb 0,Va 0]) rfl ⟨rfl,rfl⟩ st_113 zc_113 Ov) ?_
 refine Yy (y_ix (q':=n*2) (m:=n) rfl rfl rfl se_80 Om Om) ?_
 refine Ys (e_sta (vs:=[Vb 0,Va 0]) (cs':=spl CT (n*2) [Vb 0,Va 0]) 0 (n*2) rfl rfl rfl rfl sz_113 rfl rfl (Nat.zero_add _).symm (by show _≤List.length CT;omega) rfl rfl) ?_
 refine Zn (G.exit (GQ.thenE (GQ.blockE (GQ.thenN (YG ?_)))))
 refine Yy (ZaddNh n 1) ?_
 refine GL.nil ?_
 exact Zb ⟨(n+1),R6,D6,(spl CT (n*2) [Vb 0,Va 0]),rfl,Om,hR6l,(by rw[spl_length];exact hCT),(hF6.skip Om (by rw[←hw0];omega)),rfl,rfl⟩
 refine Z7 (G.seq ?_)
 have hroom:=hF6.room Om (by rw[←hw0];omega)
 rw[←hw0] at hroom
 have hpw:2^w≤2^11:=Nat.pow_le_pow_right Om Om
 have hpw1:=Nat.pow_pos (n:=w-1) (show 0<2 by omega)
 have hD6l:=hF6.len
 obtain⟨r,hr⟩:∃z,R6.getD w 0=z:=⟨_,rfl⟩
 rw[hr] at hroom
 refine YG ?_
 refine Yy (Zq (2^w) (ZshlWc 1 w) (by rw[Nat.one_mul,Nat.mod_eq_of_lt Om])) ?_
 refine Yy (Zq (2^(w-1)) (ZshrNc (2^w) 1) (pow_half Om)) ?_
 refine Y2 ?_
 refine Yy (Zf fo_91_13) ?_
 refine Yr (Zl 5 12 ag_5) ?_
 refine Yy (ZaddNa L 1) ?_
 refine Yy (ZsubNa (L+1) w) ?_
 refine Yy (ZcvNb ((L+1)-w) un_5 un_78) ?_
 refine Yy (ZcvNb n un_3 un_78) ?_
 refine Yy (Zq (256*n) (ZshlWb n 8)) ?_
 refine Yy (Zq (L+1-w+256*n) (ZorNb ((L+1)-w) (256*n)) (or_byte Om)) ?_
 refine Yy (y_bd (ps:=[(0,.tmp 478)]) (pv:=[(0,Vb (L+1-w+256*n))]) (vs:=[Vb (L+1-w+256*n)]) rfl ⟨rfl,rfl⟩ st_115 zc_115 Ov) ?_
 refine Ze (Zal zc_115) fun b12=>?_
 refine Ys (Zsw 0 sz_115) ?_
 refine Y2 ?_
 refine Yy (Zxb w w ae_109) ?_
 refine Z4 ?_
 refine Zg 16384 [y_0,y_1,y_2,y_3,r_4,y_5,y_6,y_7,y_8,y_9,r_10,y_11,r_12,y_13,e_14] ?_
 refine Ypa ?_
 refine Ypr (Zqr r (r_ld 3 w rfl rfl rfl ag_75 (Nat.zero_add _).symm (nats_get Oy)) hr) ?_
 refine Ypy (ZsubNa w 1) ?_
 refine Ypy (ZshrNc r (w-1)) ?_
 refine Ypy (ZcvWb (r/2^(w-1)) un_75 un_78) ?_
 refine Ypy (Zf fo_115_0) ?_
 refine Ypr (Zl 0 0 ag_78) ?_
 refine Ypy (ZcvWa (L+1-w+256*n) un_78 un_5) ?_
 refine Ypr (OpY.toR (y_bd (ps:=[(0,.tmp 490),(1,.tmp 493)]) (pv:=[(0,Vb ((r/2^(w-1))%65536)),(1,Va ((L+1-w+256*n)%256))]) (vs:=[Vb ((r/2^(w-1))%65536),Va ((L+1-w+256*n)%256)]) rfl ⟨rfl,rfl⟩ st_113 zc_113 Ov)) ?_
 refine Ypy (y_ix (q':=n*2) (m:=n) rfl rfl rfl se_80 Om Om) ?_
 refine Yps (e_sta (vs:=[Vb ((r/2^(w-1))%65536),Va ((L+1-w+256*n)%256)]) (cs':=spl CT (n*2) [Vb ((r/2^(w-1))%65536),Va ((L+1-w+256*n)%256)]) 1 (n*2) rfl rfl rfl rfl sz_113 rfl rfl (Nat.zero_add _).symm (by show _≤List.length CT;omega) rfl rfl) ?_
 refine GP.nil (GQ.thenN (G.seq ?_))
 refine Zg 0 [y_0,y_1,y_2,y_3,r_4,y_5,y_6,r_7,y_8,y_9,r_10,y_11,y_12,y_13,y_14] ?_
 refine Ypa ?_
 refine Ypy (Zf fo_91_17) ?_
 refine Ypy (Zf fo_83_0) ?_
 refine Ypr (Zl 6 16 ag_81) ?_
 refine Ypr (Zqr r (r_ld 3 w rfl rfl rfl ag_75 (Nat.zero_add _).symm (nats_get Oy)) hr) ?_
 refine Ypr (Zqr r (r_ld 3 w rfl rfl rfl ag_75 (Nat.zero_add _).symm (nats_get Oy)) hr) ?_
 refine Ypy (ZaddNc r (2^(w-1))) ?_
 refine Ypy (y_congr (y_slLH (q':=r) (lo:=r) (hi:=r+(2^(w-1))) rfl rfl rfl rfl se_81 Om Om) (slice_eq (a:=r+(2^(w-1))-r) (a':=2^(w-1)) (b:=2048-r) (b':=2048-r) Om Om)) ?_
 refine GP.nil (GQ.thenN (Y6 ?_))
 refine Yy (Zge (2^(w-1)) 4) ?_
 refine Zn ?_
 refine G.meetK (fun ρ l=>∃D7:List Nat,(D7=splN D6 r (List.replicate (2^(w-1)) (L+1-w+256*n)))∧ρ=[(0,.slice tz.1 0 tz.2),(1,Vp bS 0),(19,Vp b5 0),(32,Vs b10 0 256 256),(35,Vc (2^(w-1))),(36,Vp b12 0),(37,Vp b5 w),(38,Vs b9 r (2^(w-1)) (2048-r)),(451,Vs bS 279 (last+1) 256),(452,Vh (last+1)),(453,Vh n),(511,.bool (decide (((4:Nat):Int)≤((2^(w-1):Nat):Int))))]∧l=[⟨b12,0,[Vb (L+1-w+256*n)],none⟩,⟨b10,0,spl CT (n*2) [Vb ((r/2^(w-1))%65536),Va ((L+1-w+256*n)%256)],none⟩,⟨b9,0,(nats .u16 D7),none⟩,⟨b5,0,(nats .u32 R6),none⟩,⟨b2,0,(nats .u32 H5),none⟩,⟨bS,0,(nats .u32 (List.replicate 256 0)),(some (91,535))⟩,⟨bS,256,[Vs bo 0 0 0,.slice none 0 0,.slice none 0 0,Vh 262143,Vh 0,Va 255,Va 11,Va 0,Va 0,Vb (last+1),Vh 0,.bool false,Va L,Va L,Vs b10 0 (last+1) 256,.slice none 0 0,Vs b9 0 2048 2048,Vs bn 0 0 513,.slice none 0 0,.slice none 0 0,.slice none 0 0,.slice none 0 0,Vp bF 0],none⟩,⟨bS,279,(nats .u8 W3),none⟩]) ?_ ?_
 refine Zc (fun h13=>?_) (fun h13=>?_)
 have hp4:=pow_four (m:=w-1) Om
 refine Y5 ?_
 refine Zn (G.block ?_)
 refine Zo (fun mz ρ l=>∃i7:Nat,∃D8:List Nat,mz=2^(w-1)-i7∧(i7%4=0∧i7≤2^(w-1))∧(D8.length=2048)∧(D8=splN D6 r (List.replicate i7 (L+1-w+256*n)))∧ρ=[(0,.slice tz.1 0 tz.2),(1,Vp bS 0),(19,Vp b5 0),(32,Vs b10 0 256 256),(35,Vc (2^(w-1))),(36,Vp b12 0),(37,Vp b5 w),(38,Vs b9 r (2^(w-1)) (2048-r)),(39,Vh i7),(451,Vs bS 279 (last+1) 256),(452,Vh (last+1)),(453,Vh n),(511,.bool (decide (((4:Nat):Int)≤((2^(w-1):Nat):Int))))]∧l=[⟨b12,0,[Vb (L+1-w+256*n)],none⟩,⟨b10,0,spl CT (n*2) [Vb ((r/2^(w-1))%65536),Va ((L+1-w+256*n)%256)],none⟩,⟨b9,0,(nats .u16 D8),none⟩,⟨b5,0,(nats .u32 R6),none⟩,⟨b2,0,(nats .u32 H5),none⟩,⟨bS,0,(nats .u32 (List.replicate 256 0)),(some (91,535))⟩,⟨bS,256,[Vs bo 0 0 0,.slice none 0 0,.slice none 0 0,Vh 262143,Vh 0,Va 255,Va 11,Va 0,Va 0,Vb (last+1),Vh 0,.bool false,Va L,Va L,Vs b10 0 (last+1) 256,.slice none 0 0,Vs b9 0 2048 2048,Vs bn 0 0 513,.slice none 0 0,.slice none 0 0,.slice none 0 0,.slice none 0 0,Vp bF 0],none⟩,⟨bS,279,(nats .u8 W3),none⟩]) ⟨0,D6,rfl,⟨rfl,Om⟩,hD6l,(splN_rep0 _ _ _).symm,rfl,rfl⟩ ?_ (hs:=rfl)
 rintro _ _ _ ⟨i7,D8,rfl,hi7,hD8l,hD8,rfl,rfl⟩
 refine Y6 ?_
 refine Yy (Zlen un_81) ?_
 refine Yy (Zlt i7 (2^(w-1))) ?_
 refine Zn ?_
 refine Zc (fun h14=>?_) (fun h14=>?_)
 refine Z7 (G.seq (G.block (Y5 ?_)))
 refine Yy (ZaddNh i7 4) ?_
 refine Yy (ZaddNh i7 4) ?_
 refine Yy (y_congr (y_sl3 (q':=r+i7) (lo:=i7) (hi:=i7+4) (m:=i7+4) rfl rfl rfl rfl rfl se_81 Om Om) (slice_eq (a:=(i7+4)-i7) (a':=4) (b:=(i7+4)-i7) (b':=4) Om Om)) ?_
 refine Zn ?_
 refine G.meetK (fun ρ l=>∃D10:List Nat,(D10.length=2048)∧(D10=splN D6 r (List.replicate (i7+4) (L+1-w+256*n)))∧ρ=[(0,.slice tz.1 0 tz.2),(1,Vp bS 0),(19,Vp b5 0),(32,Vs b10 0 256 256),(35,Vc (2^(w-1))),(36,Vp b12 0),(37,Vp b5 w),(38,Vs b9 r (2^(w-1)) (2048-r)),(39,Vh i7),(40,Vs b9 (r+i7) 4 4),(451,Vs bS 279 (last+1) 256),(452,Vh (last+1)),(453,Vh n),(511,.bool (decide (((4:Nat):Int)≤((2^(w-1):Nat):Int))))]∧l=[⟨b12,0,[Vb (L+1-w+256*n)],none⟩,⟨b10,0,spl CT (n*2) [Vb ((r/2^(w-1))%65536),Va ((L+1-w+256*n)%256)],none⟩,⟨b9,0,(nats .u16 D10),none⟩,⟨b5,0,(nats .u32 R6),none⟩,⟨b2,0,(nats .u32 H5),none⟩,⟨bS,0,(nats .u32 (List.replicate 256 0)),(some (91,535))⟩,⟨bS,256,[Vs bo 0 0 0,.slice none 0 0,.slice none 0 0,Vh 262143,Vh 0,Va 255,Va 11,Va 0,Va 0,Vb (last+1),Vh 0,.bool false,Va L,Va L,Vs b10 0 (last+1) 256,.slice none 0 0,Vs b9 0 2048 2048,Vs bn 0 0 513,.slice none 0 0,.slice none 0 0,.slice none 0 0,.slice none 0 0,Vp bF 0],none⟩,⟨bS,279,(nats .u8 W3),none⟩]) ?_ ?_
 exact t113 (p:=r+i7) (by kernel_rfl) (fun _ _ _ _ _ h=>h) Om rfl rfl rfl (Zm ⟨((((D8.set (r+i7) (L+1-w+256*n)).set (r+i7+1) (L+1-w+256*n)).set (r+i7+2) (L+1-w+256*n)).set (r+i7+3) (L+1-w+256*n)),(by simp;exact hD8l),(fill4 hD8 Om),rfl,rfl⟩)
 rintro _ _ ⟨D10,hD10l,hD10,rfl,rfl⟩
 refine GQ.blockN (GQ.thenN (YG ?_))
 refine Yy (ZaddNh i7 4) ?_
 refine GL.nil ?_
 exact Zb ⟨(i7+4),D10,rfl,⟨Om,Om⟩,hD10l,hD10,rfl,rfl⟩
 refine G.exit (GQ.thenE (GQ.thenE (GQ.blockE ?_)))
 exact Zm ⟨D8,(by rw[hD8,show i7=2^(w-1) by omega]),rfl,rfl⟩
 refine Y5 ?_
 refine Yy (Zlen un_81) ?_
 refine Zn (G.block ?_)
 refine Zo (fun mz ρ l=>∃i8:Nat,∃D9:List Nat,mz=2^(w-1)-i8∧(i8≤2^(w-1))∧(D9.length=2048)∧(D9=splN D6 r (List.replicate i8 (L+1-w+256*n)))∧ρ=[(0,.slice tz.1 0 tz.2),(1,Vp bS 0),(19,Vp b5 0),(32,Vs b10 0 256 256),(35,Vc (2^(w-1))),(36,Vp b12 0),(37,Vp b5 w),(38,Vs b9 r (2^(w-1)) (2048-r)),(451,Vs bS 279 (last+1) 256),(452,Vh (last+1)),(453,Vh n),(511,.bool (decide (((4:Nat):Int)≤((2^(w-1):Nat):Int)))),(538,Vh (2^(w-1))),(539,Vh i8)]∧l=[⟨b12,0,[Vb (L+1-w+256*n)],none⟩,⟨b10,0,spl CT (n*2) [Vb ((r/2^(w-1))%65536),Va ((L+1-w+256*n)%256)],none⟩,⟨b9,0,(nats .u16 D9),none⟩,⟨b5,0,(nats .u32 R6),none⟩,⟨b2,0,(nats .u32 H5),none⟩,⟨bS,0,(nats .u32 (List.replicate 256 0)),(some (91,535))⟩,⟨bS,256,[Vs bo 0 0 0,.slice none 0 0,.slice none 0 0,Vh 262143,Vh 0,Va 255,Va 11,Va 0,Va 0,Vb (last+1),Vh 0,.bool false,Va L,Va L,Vs b10 0 (last+1) 256,.slice none 0 0,Vs b9 0 2048 2048,Vs bn 0 0 513,.slice none 0 0,.slice none 0 0,.slice none 0 0,.slice none 0 0,Vp bF 0],none⟩,⟨bS,279,(nats .u8 W3),none⟩]) ⟨0,D6,rfl,Om,hD6l,(splN_rep0 _ _ _).symm,rfl,rfl⟩ ?_ (hs:=rfl)
 rintro _ _ _ ⟨i8,D9,rfl,hi8,hD9l,hD9,rfl,rfl⟩
 refine Y5 ?_
 refine Yy (Zlt i8 (2^(w-1))) ?_
 refine Z4 ?_
 refine Zc (fun h15=>?_) (fun h15=>?_)
 refine Z7 (G.seq (G.block (Y5 ?_)))
 refine Y1 ?_
 refine Yr (Zla 0 0 ag_115 sz_115) ?_
 refine Yy (Zx (r+i8) i8 se_81) ?_
 refine Ys (Zsa 2 (r+i8) sz_115) ?_
 refine GL.nil (GQ.blockN (GQ.thenN (YG ?_)))
 refine Yy (ZaddNh i8 1) ?_
 refine GL.nil ?_
 exact Zb ⟨(i8+1),(D9.set (r+i8) (L+1-w+256*n)),rfl,Om,(by simp;exact hD9l),(fill1 hD9 Om),rfl,rfl⟩
 refine G.exit (GQ.thenE (GQ.thenE (GQ.blockE ?_)))
 exact Zm ⟨D9,(by rw[hD9,show i8=2^(w-1) by omega]),rfl,rfl⟩
 rintro _ _ ⟨D7,hD7,rfl,rfl⟩
 refine GQ.thenN (YG ?_)
 refine Yr (Zqr r (r_ld 3 w rfl rfl rfl ag_75 (Nat.zero_add _).symm (nats_get Oy)) hr) ?_
 refine Yy (ZaddNc r (2^(w-1))) ?_
 refine Ys (Zsu 3 w sz_75) ?_
 refine GL.nil (GQ.blockN (GQ.thenN (YG ?_)))
 refine Yy (ZaddNh n 1) ?_
 refine GL.nil ?_
 refine GQ.pick [1,1,1,1,1,1,1] rfl ?_
 exact Zb ⟨(n+1),(R6.set w (r+(2^(w-1)))),D7,(spl CT (n*2) [Vb ((r/2^(w-1))%65536),Va ((L+1-w+256*n)%256)]),rfl,Om,(by rw[List.length_set];exact hR6l),(by rw[spl_length];exact hCT),(by have h9:=hF6.step Om (by rw[←hw0];omega);rw[←hw0,hr, ←hD7] at h9;exact h9),rfl,rfl⟩
 refine G.exit (GQ.thenE (GQ.thenE (GQ.blockE (GQ.thenN (G.seq ?_)))))
 have hDF:=hF6.done Om
 refine YG ?_
 refine Zn (G.ret ?_)
 repeat first|refine ZR ?_|refine ZB ?_
 exact ret3 [4,4,4,1] rfl rfl rfl rfl rfl (⟨bS,bF,bo,bn,b10,b9,tz.1,tz.2,W3,F,rfl,hDF▸hTab.1,hDF▸hTab.2,by rw[hDF]⟩)
end Go.Proofs.YtplgbfkpeampgaaGreatDoor
