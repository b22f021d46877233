/- The walk's own engine and plain laws of numbers, bits and codes, part 1. -/
import Derived.Test.YtekcchgffhphbaaGreatDoorP0
import Derived.Still
set_option linter.unusedVariables false
set_option linter.unusedSimpArgs false
namespace Go.Proofs.YtekcchgffhphbaaGreatDoor
def nzc:List Nat→Nat
  |[]=>0
  |x::xs=>(if x=0 then 0 else 1)+nzc xs
def iw:List Nat→Nat
  |[]=>0
  |x::xs=>(if x=0 then 0 else 2^(11-x))+iw xs
theorem fV {xs:List Nat} {i:Nat} (h:i<xs.length):xs.take (i+1)=xs.take i++[xs.getD i 0]:=by
  rw[List.take_succ_eq_append_getElem h];simp[h]
theorem tK:∀xs ys:List Nat,iw (xs++ys)=iw xs+iw ys
  |[],ys=>by simp[iw]
  |x::xs,ys=>by simp only[List.cons_append,iw,tK xs ys];omega
def fm (xs:List Nat) (b:Nat):Prop:=∀x ∈ xs,x≤b
theorem fm.at_ {xs:List Nat} {b:Nat} (h:fm xs b) (i:Nat):xs.getD i 0≤b:=by
  rw[List.getD_eq_getElem?_getD];rcases Nat.lt_or_ge i xs.length with hi|hi
  · simp only[hi,List.getElem?_eq_getElem,Option.getD_some];exact h _ (List.getElem_mem hi)
  · simp[List.getElem?_eq_none hi]
def jn (xs:List Nat):Prop:=xs.length≤256∧fm xs 11∧iw xs=2048∧1<nzc xs
instance (xs:List Nat):Decidable (jn xs):=by unfold jn fm;exact inferInstance
theorem ix {xs:List Nat} {i:Nat} (h:i<xs.length):xs.getD i 0 ∈ xs:=by simp[List.getD_eq_getElem?_getD,h]
def nx (ls:List Nat):Nat→Nat
  |0=>0
  |d+1=>(nx ls d+ls.count (11-d))/2
def zQ (ls:List Nat) (m:Nat):Nat:=nx ls (11-m)
theorem xR (ls:List Nat) {m:Nat} (h1:1≤m) (h:m≤11):zQ ls (m-1)=(zQ ls m+ls.count m)/2:=by
  unfold zQ;rw[show 11-(m-1)=(11-m)+1 by omega];simp only[nx];rw[show 11-(11-m)=m by omega]
def l4 (ls:List Nat) (s:Nat):Nat:=zQ ls (ls.getD s 0)+(ls.take s).count (ls.getD s 0)
def nh (ls:List Nat):Prop:=∀m,1≤m→m≤11→(zQ ls m+ls.count m)%2=0
abbrev Sli:=Option Addr × Nat × Nat
def adF (T:List Sli):List Value:=T.map fun t=>.slice t.1 t.2.1 t.2.2
@[simp] theorem TO (T:List Sli):(adF T).length=T.length:=by simp[adF]
@[simp] theorem Rh (k:IntKind) (xs:List Int):(ints k xs).length=xs.length:=by simp[ints]
theorem EI (k:IntKind) (n:Nat):aa k (List.replicate n 0)=ints k (List.replicate n 0):=by simp[aa,ints]
section
variable {P:Program} {K:Kx} {Q:Exit→Act→World→Prop} {ρ:ba} {l l' r:List aU} {cd:Code} {e:Exit}
theorem G.perm (hp:l.Perm l') (h:G P K Q cd ρ l' r):G P K Q cd ρ l r:=fun a w ha=>h a w (ha.perm hp)
theorem GQ.perm (hp:l.Perm l') (h:GQ K Q e ρ l' r):GQ K Q e ρ l r:=fun a w ha=>h a w (ha.perm hp)
end
def p5 (ls:List Nat) (c:Nat):Nat × Nat:=(ls.getD c 0,l4 ls c)
def codeBits (ls:List Nat):List Nat→List Nat
  |[]=>[]
  |c::t=>vP (l4 ls c) (ls.getD c 0)++codeBits ls t
theorem lN (ls:List Nat):∀t:List Nat,(codeBits ls t).length=tN (p5 ls) t
  |[]=>rfl
  |c::t=>by simp only[codeBits,List.length_append,tJ,lN ls t,tN,p5]
theorem p9 (ls:List Nat):∀t:List Nat,(∀c ∈ t,l4 ls c<2^ls.getD c 0)→bitsV (codeBits ls t)=tR (p5 ls) t
  |[],_=>rfl
  |c::t,h=>by
    simp only[codeBits];rw[oV,pY,p9 ls t (fun x hx=>h x (List.mem_cons_of_mem _ hx)),lN,Nat.mod_eq_of_lt (h c List.mem_cons_self)]
    rfl
def tL (Y:List (List Nat)):List Nat:=Y.flatMap fun y=>[y.length%256,y.length/2^8]
theorem EJ {Y:List (List Nat)} {y:List Nat} {n:Nat} (h:Y.length<3) (hn:y.length=n):tL ((Y++[y]).take 3)=tL (Y.take 3)++[n%256,n/2^8]:=by
  subst hn;rw[List.take_of_length_le (show(Y++[y]).length≤3 by simp;omega),List.take_of_length_le (show Y.length≤3 by omega)];simp[tL]
def jQ (dQ v:Nat):List Nat:=if v<2^av dQ-1-dQ then fU v (av dQ-1) else if v<2^(av dQ-1) then fU v (av dQ) else fU (v+(2^av dQ-1-dQ)) (av dQ)
def cN:Nat→List Nat
  |0=>fU 0 2
  |1=>fU 1 2
  |2=>fU 2 2
  |m+3=>fU 3 2++cN m
theorem CG {m:Nat} (h:3≤m):cN m=fU 3 2++cN (m-3):=by
  obtain⟨k,rfl⟩:∃k,m=k+3:=⟨m-3,Om⟩
  rfl
theorem EK {m:Nat} (h:m<3):cN m=fU m 2:=by
  match m,h with
  |0,_=>rfl
  |1,_=>rfl
  |2,_=>rfl
theorem qO {xs:List Nat} {i:Nat} (h:i<xs.length):xs.drop i=xs.getD i 0::xs.drop (i+1):=by rw[List.drop_eq_getElem_cons h];simp[h]
theorem qa:∀(xs:List Nat) (i:Nat),(xs.take i).sum≤xs.sum
  |[],i=>by simp
  |x::xs,0=>by simp
  |x::xs,i+1=>by
    have:=qa xs i;simp only[List.take_succ_cons,List.sum_cons];omega
theorem Bytes.alS (n:Nat):Bytes (List.replicate n 0):=fun y hy=>by rw[List.mem_replicate] at hy;omega
theorem xr (Z:List Int) (i:Nat):(Z.map Int.toNat).getD i 0=(Z.getD i 0).toNat:=by
  simp only[List.getD_eq_getElem?_getD,List.getElem?_map];cases Z[i]? <;>rfl
theorem pG.app {a b:List Nat} (ha:pG a) (hb:pG b):pG (a++b):=fun x hx=>(List.mem_append.1 hx).elim (ha x) (hb x)
theorem qP (dQ v:Nat):pG (jQ dQ v):=by
  unfold jQ;split
  · exact j5 _ _
  · split<;>exact j5 _ _
theorem ni:∀m,pG (cN m)
  |0=>j5 _ _
  |1=>j5 _ _
  |2=>j5 _ _
  |m+3=>pG.app (j5 3 2) (ni m)
theorem jg {α:Type} {d r:α} {T F:List α} {u:Nat} (h:∀j,j<u→T.getD j d=F.getD j d) (hu:u<T.length) (hr:F.getD u d=r):∀j,j<u+1→(T.set u r).getD j d=F.getD j d:=fun j hj=>by
  by_cases e:j=u
  · subst e;simp[List.getD_eq_getElem?_getD,hu] at hr ⊢;exact hr.symm
  · have:=h j Om;simpa [List.getD_eq_getElem?_getD,List.getElem?_set_ne (fun h=>e h.symm)] using this
theorem zR {α:Type} {d:α} {T F:List α} {u:Nat} (h:∀j,j<u→T.getD j d=F.getD j d) (hl:T.length=F.length) (hu:T.length≤u):T=F:=by
  apply List.ext_getElem hl;intro i h1 h2;have:=h i Om;simpa [List.getD_eq_getElem?_getD,h1,h2] using this
theorem kx {α:Type} {Z:List α} {d v:α} {i p:Nat} (h:i<Z.length):(Z.set i v).getD p d=if p=i then v else Z.getD p d:=by
  split
  · next e=>subst e;simp[List.getD_eq_getElem?_getD,h]
  · next e=>simp[List.getD_eq_getElem?_getD,List.getElem?_set_ne (fun h=>e h.symm)]
theorem jh {α:Type} {Z:List α} {d v:α} {i p:Nat} (hp:p≠i):(Z.set i v).getD p d=Z.getD p d:=by
  simp[List.getD_eq_getElem?_getD,List.getElem?_set_ne (fun h=>hp h.symm)]
def uV (L n:Nat):Nat:=if n=0 then 0 else L+1-n
def cU (ls:List Nat) (L last:Nat):List Nat:=(ls.take last).map (uV L)
structure HW (ls:List Nat) (L last:Nat):Prop where
  le:fm ls L
  at_:∃p,p<ls.length∧ls.getD p 0=L
  lt:last<ls.length
  nz:ls.getD last 0≠0
  z:∀p,last<p→ls.getD p 0=0
theorem kY {ls:List Nat} {L last:Nat} (h:last≤ls.length):(cU ls L last).length=last:=by simp[cU];omega
theorem za {ls:List Nat} {L last p:Nat} (h:last≤ls.length) (hp:p<last):(cU ls L last).getD p 0=uV L (ls.getD p 0):=by
  simp[cU,List.getD_eq_getElem?_getD,hp,show p<ls.length by omega]
theorem tM {ls:List Nat} {L last:Nat}:fm (cU ls L last) L:=fun x hx=>by
  obtain⟨n,_,rfl⟩:=List.mem_map.1 hx;unfold uV;split<;>omega
def nib:List Nat→List Nat
  |a::b::r=>(a*16+b)::nib r
  |[a]=>[a*16]
  |[]=>[]
theorem ss:∀xs:List Nat,(nib xs).length=(xs.length+1)/2
  |[]=>by simp[nib]
  |[a]=>by simp[nib]
  |a::b::r=>by simp only[nib,List.length_cons,ss r];omega
theorem VN (a x:Nat) (h:x<16):a*16|||x=a*16+x:=by
  have:=Nat.two_pow_add_eq_or_of_lt (i:=4) (b:=x) h a;rw[show(2:Nat)^4*a=a*16 by omega] at this;exact this.symm
theorem fit {C:List Nat} {k v w:Nat} (h:fm C w) (hv:v≤w):fm (C.set k v) w:=fun y hy=>by
  rcases List.mem_or_eq_of_mem_set hy with h1|h1
  · exact h y h1
  · omega
theorem zS:∀xs:List Nat,fm xs 15→Bytes (nib xs)
  |[],_=>fun x hx=>by simp[nib] at hx
  |[a],h=>fun x hx=>by
    have:=h a Oi;simp[nib] at hx;omega
  |a::b::r,h=>fun x hx=>by
    have h1:=h a Oi;have h2:=h b Oi;simp only[nib,List.mem_cons] at hx;rcases hx with hx|hx
    · omega
    · exact zS r (fun y hy=>h y (by simp[hy])) x hx
end Go.Proofs.YtekcchgffhphbaaGreatDoor
namespace Go.Proofs.YtekcchgffhphbaaGreatDoor
open Go
end Go.Proofs.YtekcchgffhphbaaGreatDoor
namespace Go.Proofs.YtekcchgffhphbaaGreatDoor
def zT (xs:List Nat) (len p:Nat) (bs:List Nat):Prop:=(p+bs.length+7)/8≤len∧tailV xs 0 len/2^p%2^bs.length=lowV bs
theorem zT.take {xs bs:List Nat} {len p v n:Nat} (h:zT xs len p (fU v n++bs)) (hb:Bytes xs):bitsN xs p n=v%2^n∧zT xs len (p+n) bs∧(p+n+7)/8≤len:=by
  obtain⟨h1,h2⟩:=h;rw[List.length_append,bY] at h1 h2;have hf:(p+n+7)/8≤len:=Om;rw[ib,gO,bY,Nat.pow_add] at h2;have fg:v%2^n<2^n:=Nat.mod_lt _ (Nat.pow_pos Om);refine⟨?_,⟨Om,?_⟩,hf⟩
  · rw[xQ hb n hf];have:=congrArg (· %2^n) h2;simp only[Nat.mod_mul_right_mod,Nat.add_mul_mod_self_left] at this;rw[this,Nat.mod_mod]
  · have:=congrArg (· /2^n) h2;simp only[Nat.mod_mul_right_div_self] at this;rw[Nat.pow_add, ←Nat.div_div_eq_div_mul,this,Nat.add_mul_div_left _ _ (Nat.pow_pos Om),Nat.div_eq_of_lt fg,Nat.zero_add]
theorem zT.skip {xs a bs:List Nat} {len p:Nat} (h:zT xs len p (a++bs)) (ha:pG a):zT xs len (p+a.length) bs:=by
  obtain⟨h1,h2⟩:=h;rw[List.length_append] at h1 h2;rw[ib,Nat.pow_add] at h2;refine⟨Om,?_⟩;have:=congrArg (· /2^a.length) h2;simp only[Nat.mod_mul_right_div_self] at this;rw[Nat.pow_add, ←Nat.div_div_eq_div_mul,this,Nat.add_mul_div_left _ _ (Nat.pow_pos Om),Nat.div_eq_of_lt (wV ha),Nat.zero_add]
theorem zT.VO {xs bs:List Nat} {len:Nat} (hl:(bs.length+7)/8≤len) (h:tailV xs 0 len%2^bs.length=lowV bs):zT xs len 0 bs:=⟨Om,by rw[Nat.pow_zero,Nat.div_one];exact h⟩
end Go.Proofs.YtekcchgffhphbaaGreatDoor
namespace Go.Proofs.YtekcchgffhphbaaGreatDoor
open Go
section
variable {P:Program} {fn:Func} {ee:Value→List aU→Prop} {l0 l r:List aU} {w0:World} {n:Nat} {p rest:List aU} {ρ:ba}
theorem A5 {w:World} {vs:List Value} {t:TypeId} {b q:Nat} (hP:fS P t=some true) (hz:cY P t=some vs.length) (h:∀j,j<vs.length→w.cell? ⟨b,q+j,none⟩=some (vs.getD j undef)):(loadVar t ⟨b,q,none⟩).run P w=.ok (.agg vs.toArray) w:=by
  have:=run_loadCellsFrom (P:=P) (w:=w) ⟨b,q,none⟩ vs.length 0 vs.toArray #[] (fun j hj=>by rw[dK,Nat.zero_add,h j hj];simp) Oi;simp[loadVar,qJ hP,du hz,loadCells,this]
end
section
variable {P:Program} {ρ:ba} {o:Oper} {t:TypeId} {n sz:Nat}
end
def fD (c:Nat × Nat × Nat):List Value:=[.int .u16 ((c.2.2:Nat):Int),.int .u8 ((c.1:Nat):Int),.int .u8 ((c.2.1:Nat):Int)]
theorem eR (c:Nat × Nat × Nat):(fD c).length=3:=rfl
theorem Ri {T:List (Nat × Nat × Nat)} {i:Nat} (h:i<T.length):(rows fD T)[i*3]? =some (.int .u16 (((T.getD i (0,0,0)).2.2:Nat):Int)):=tG (e:=0) eR (0,0,0) h Od
theorem GK {T:List (Nat × Nat × Nat)} {i:Nat} (h:i<T.length):(rows fD T)[i*3+1]? =some (.int .u8 (((T.getD i (0,0,0)).1:Nat):Int)):=tG eR (0,0,0) h Od
theorem GM {T:List (Nat × Nat × Nat)} {i:Nat} (h:i<T.length):(rows fD T)[i*3+2]? =some (.int .u8 (((T.getD i (0,0,0)).2.1:Nat):Int)):=tG eR (0,0,0) h Od
theorem Rj (n:Nat):(List.replicate n ([.int .u16 ((0:Nat):Int),.int .u8 ((0:Nat):Int),.int .u8 ((0:Nat):Int)]:List Value)).flatten=rows fD (List.replicate n (0,0,0)):=by
  induction n with
  |zero=>rfl
  |succ n ih=>simp only[List.replicate_succ,List.flatten_cons,rows,List.flatMap_cons] at ih ⊢;rw[ih];rfl
theorem KD (W:List Nat) (j:Nat):cH W j []=W:=by simp[cH]
section
variable {P:Program} {K:Kx} {Q:Exit→Act→World→Prop} {ρ:ba} {l r:List aU} {o:Oper} {t n m cap q d:Nat} {k:IntKind}
theorem aZ {ca:Call} {q2:Option Addr} {c2 e qL:Nat} {zs:List Value} {W ys:List Nat} {sg:aU} (i j:Nat) (ho:o.op=.call ca) (hc:ca.callee=.builtin .append) (jZ:evs ρ ca.args.toList=some [.slice (some ⟨sg.b,q,none⟩) n cap,.slice q2 m c2]) (yY:ca.argTypes= #[t,t]) (hP:gM P t=some (e,zs,1,qL)) (hz:zs.length=1)
    (hs:nthS i l=some sg) (hq:q=sg.o+j) (Ed:sg.cs=aa k W∧j+n+m≤W.length) (vd:Src l r q2 (aa k ys)) (hn:n+m≤cap∧ys.length=m) (hd:o.dst=some d) (wo:Nat.blt d K.n=true):
    oL P K ρ l r o (fun ρ' l'=>ρ'=(d,.slice (some ⟨sg.b,q,none⟩) (n+m) cap)::ρ∧l'=setS i ⟨sg.b,sg.o,aa k (cH W (j+n) ys),sg.sh⟩ l):=by
  intro a w ha nx Q px;obtain⟨kt,hlen⟩:=hn;obtain⟨b,o',cs,sh⟩:=sg;simp only at Ed hq jZ hs ⊢;obtain⟨rfl,hj⟩:=Ed;subst hq;obtain⟨i',zv,hu,hi,vc,pK,wT,AY⟩:=jc hP;have ve:∀w,(sizeOf e).run P w=.ok 1 w:=du (by simp[cY,hi,wT]);have kS:=nc ha.fr jZ;have VI:∀u ∈ aa k ys,u.oneCell'=true:=fun u hu=>List.all_eq_true.1 (xK ys) u hu
  have lU:∀(u:Value) (w':World),(Builtin.append_ #[t,t] o.type #[.slice (some ⟨b,o'+j,none⟩) n cap,.slice q2 m c2]).run P w=.ok u w'→(execOp a.eval o).run P w=.ok (.value u) w':=fun u w' h=>by
    simp[execOp,ho,resolve,hc,kS,invoke,builtin,yY,h]
  have zN:zv.cells.size=1:=by rw[←hz, ←pK];simp
  have TP:(aa k ys).length=m*1:=by simp[hlen]
  unfold Oper.wp;have none_:m=0→nx (a.put (some d) (.slice (some ⟨b,o'+j,none⟩) (n+m) cap)) w:=fun hm=>by
    subst hm;have e0:ys=[]:=List.eq_nil_of_length_eq_zero hlen;subst e0;refine px _ _ ⟨_,_,⟨rfl,rfl⟩,?_⟩;rw[KD,jb i _ l hs];exact ha.put wo _
  by_cases wC:m=0
  · have EA:(Builtin.firstCells 1 0 (.slice q2 0 c2)).run P w=.ok #[] w:=by
      cases q2<;>simp[Builtin.firstCells,loadCells,loadCellsFrom]
    have hr:(Builtin.append_ #[t,t] o.type #[.slice (some ⟨b,o'+j,none⟩) n cap,.slice q2 0 c2]).run P w=.ok (.slice (some ⟨b,o'+j,none⟩) (n+0) cap) w:=by
      simp[Builtin.append_,br hu,ve,Builtin.lenOf,show n≤cap by omega,EA,storeCells]
    have adG:=none_ wC;subst wC;rw[lU _ _ hr];simp only[Oper.upon,hd];exact adG
  · rcases vd.cells ha with AZ|⟨ad,Q8,lK⟩
    · exact(wC (by rw[←hlen];have:=congrArg List.length AZ;simpa using this)).elim
    · subst Q8;have EA:=run_firstCells_some (P:=P) w 1 m ad m c2 (aa k ys) TP lK;obtain⟨w',TH,hA⟩:=iP (P:=P) (aa k ys) 0 (j+n) l w ⟨b,o',aa k W,sh⟩ i b (o'+j+n) ha hs rfl (by show o'+j+n=o'+(j+n);omega) Oz VI;have hr:(Builtin.append_ #[t,t] o.type #[.slice (some ⟨b,o'+j,none⟩) n cap,.slice (some ad) m c2]).run P w=.ok (.slice (some ⟨b,o'+j,none⟩) (n+m) cap) w':=by
        simp[Builtin.append_,br hu,ve,Builtin.lenOf,kt,EA,dK,TH]
      rw[lU _ _ hr];simp only[Oper.upon,hd];refine px _ _ ⟨_,_,⟨rfl,rfl⟩,?_⟩;have e1:=Kt (k:=k) W ys (j+n) Om;rw[←e1];exact hA.put wo _
end
end Go.Proofs.YtekcchgffhphbaaGreatDoor
namespace Go.Proofs.YtekcchgffhphbaaGreatDoor
def sub (text:List Nat) (a m:Nat):List Nat:=(text.drop a).take m
section
variable {xs dt:List Nat} {k len L:Nat} {cd:Nat→Nat × Nat} {S:Nat→Prop} {s:BR} {text:List Nat} {a m:Nat}
end
theorem iR {xs:List Nat} {i j v:Nat} (h:i<xs.length):(xs.set i v).getD j 0=if i=j then v else xs.getD j 0:=by
  simp only[List.getD_eq_getElem?_getD,List.getElem?_set];split
  · rename_i e;subst e;simp[h]
  · rfl
theorem qQ {ds ys:List Nat} {j p:Nat} (h:j+ys.length≤ds.length):(cH ds j ys).getD p 0=if j≤p∧p<j+ys.length then ys.getD (p-j) 0 else ds.getD p 0:=by
  simp only[List.getD_eq_getElem?_getD,cH];by_cases h1:p<j
  · rw[if_neg Om,List.append_assoc,List.getElem?_append_left Oz,List.getElem?_take,if_pos h1]
  · by_cases h2:p<j+ys.length
    · rw[if_pos ⟨Om,h2⟩,List.getElem?_append_left Oz,List.getElem?_append_right Oz];congr 2;simp;omega
    · rw[if_neg Om,List.getElem?_append_right Oz,List.getElem?_drop];congr 2;simp;omega
section
variable {P:Program} {K:Kx} {Q:Exit→Act→World→Prop} {ρ:ba} {l r:List aU} {L rest:List Oper} {o:Oper}
theorem At.split {a:Act} {w:World} {b o o':Nat} {xs ys:List Value} {sh:Option (TypeId × Nat)} (h:At K ρ (⟨b,o,xs++ys,sh⟩::l) r a w) (ho:o'=o+xs.length):At K ρ (⟨b,o,xs,none⟩::⟨b,o',ys,none⟩::l) r a w:=by
  subst ho;have ks:=h.st.hl _ List.mem_cons_self;have pc:=List.pairwise_cons.1 h.st.pw;have hx:∀b' j:Nat,(⟨b,o,xs,none⟩:aU).has b' j→(⟨b,o,xs++ys,sh⟩:aU).has b' j:=fun b' j ⟨h1,h2,h3⟩=>⟨h1,h2,by simp at h3 ⊢;omega⟩
  have hy:∀b' j:Nat,(⟨b,o+xs.length,ys,none⟩:aU).has b' j→(⟨b,o,xs++ys,sh⟩:aU).has b' j:=fun b' j ⟨h1,h2,h3⟩=>⟨h1,by simp at h2 ⊢;omega,by simp at h2 h3 ⊢;omega⟩
  refine⟨h.size,h.defers,h.fr,h.keeps,⟨?_,h.st.hr,?_,?_⟩,?_⟩
  · intro u hu;rcases List.mem_cons.1 hu with h'|hu
    · subst h';refine⟨fun j v hj=>ks.1 j v ?_,fun j hj=>ks.2.1 j (by simp at hj ⊢;omega),fun x hx=>by cases hx⟩;have:j<xs.length:=(List.getElem?_eq_some_iff.1 hj).1;show(xs++ys)[j]? =_;rw[List.getElem?_append_left this];exact hj
    · rcases List.mem_cons.1 hu with h'|hu
      · subst h';refine⟨fun j v hj=>?_,fun j hj=>?_,fun x hx=>by cases hx⟩
        · have:=ks.1 (xs.length+j) v (by
            show(xs++ys)[xs.length+j]? =_;rw[List.getElem?_append_right Om];simpa using hj)
          rw[←Nat.add_assoc] at this;exact this
        · have:=ks.2.1 (xs.length+j) (by simp at hj ⊢;omega);rw[←Nat.add_assoc] at this;exact this
      · exact h.st.hl u (List.mem_cons_of_mem _ hu)
  · refine List.Pairwise.cons (fun u hu=>?_) (List.Pairwise.cons (fun u hu=>?_) pc.2)
    · rcases List.mem_cons.1 hu with h'|hu
      · subst h';intro b' j h1 h2;have a1:=h1.2.2;have a2:=h2.2.1;simp at a1 a2;omega
      · exact fun b' j h1 h2=>pc.1 u hu b' j (hx b' j h1) h2
    · exact fun b' j h1 h2=>pc.1 u hu b' j (hy b' j h1) h2
  · intro u hu t ht;rcases List.mem_cons.1 hu with h'|hu
    · subst h';exact fun b' j h1 h2=>h.st.lr _ List.mem_cons_self t ht b' j (hx b' j h1) h2
    · rcases List.mem_cons.1 hu with h'|hu
      · subst h';exact fun b' j h1 h2=>h.st.lr _ List.mem_cons_self t ht b' j (hy b' j h1) h2
      · exact h.st.lr u (List.mem_cons_of_mem _ hu) t ht
  · intro u hu b' j hh;rcases List.mem_cons.1 hu with h'|hu
    · subst h';exact h.own _ List.mem_cons_self b' j (hx b' j hh)
    · rcases List.mem_cons.1 hu with h'|hu
      · subst h';exact h.own _ List.mem_cons_self b' j (hy b' j hh)
      · exact h.own u (List.mem_cons_of_mem _ hu) b' j hh
theorem tO {b o o':Nat} {cs xs ys:List Value} {sh:Option (TypeId × Nat)} (i:Nat) (hi:nthS i l=some ⟨b,o,cs,sh⟩) (hc:cs=xs++ys) (ho:o'=o+xs.length) {a:Act} {w:World} (h:At K ρ l r a w):At K ρ (⟨b,o,xs,none⟩::⟨b,o',ys,none⟩::l.eraseIdx i) r a w:=by
  have hp:l.Perm (⟨b,o,cs,sh⟩::l.eraseIdx i):=by
    have h1:=jP i ⟨b,o,cs,sh⟩ _ l hi;rwa [jb i _ l hi] at h1
  subst hc;exact(h.perm hp).split ho
theorem G.tO {c:Code} {b o o':Nat} {cs xs ys:List Value} {sh:Option (TypeId × Nat)} (i:Nat) (hi:nthS i l=some ⟨b,o,cs,sh⟩) (hc:cs=xs++ys) (ho:o'=o+xs.length) (h:G P K Q c ρ (⟨b,o,xs,none⟩::⟨b,o',ys,none⟩::l.eraseIdx i) r):G P K Q c ρ l r:=
  fun a w ha=>h a w (YtekcchgffhphbaaGreatDoor.tO i hi hc ho ha)
theorem GQ.lists {e:Exit} {l':List aU} (hl:l=l') (h:GQ K Q e ρ l' r):GQ K Q e ρ l r:=hl▸h
theorem G.lists {c:Code} {l':List aU} (hl:l=l') (h:G P K Q c ρ l' r):G P K Q c ρ l r:=hl▸h
end
theorem EL {k:IntKind} {xs:List Nat} {n:Nat} (h:xs.length=n):((aa k xs).drop 0).take n=aa k xs:=by
  rw[List.drop_zero,List.take_of_length_le Oz]
end Go.Proofs.YtekcchgffhphbaaGreatDoor
namespace Go.Proofs.YtekcchgffhphbaaGreatDoor
open Go
section
variable {P:Program} {K:Kx} {Q:Exit→Act→World→Prop} {ρ:ba} {l r:List aU} {L rest:List Oper} {o:Oper}
theorem At.VP {a:Act} {w:World} {b o o':Nat} {xs ys:List Value} {sh:Option (TypeId × Nat)} (h:At K ρ (⟨b,o,xs++ys,sh⟩::l) r a w) (ho:o'=o+xs.length):At K ρ (⟨b,o,xs,sh⟩::⟨b,o',ys,none⟩::l) r a w:=by
  subst ho;have ks:=h.st.hl _ List.mem_cons_self;have pc:=List.pairwise_cons.1 h.st.pw;have hx:∀b' j:Nat,(⟨b,o,xs,sh⟩:aU).has b' j→(⟨b,o,xs++ys,sh⟩:aU).has b' j:=fun b' j ⟨h1,h2,h3⟩=>⟨h1,h2,by simp at h3 ⊢;omega⟩
  have hy:∀b' j:Nat,(⟨b,o+xs.length,ys,none⟩:aU).has b' j→(⟨b,o,xs++ys,sh⟩:aU).has b' j:=fun b' j ⟨h1,h2,h3⟩=>⟨h1,by simp at h2 ⊢;omega,by simp at h2 h3 ⊢;omega⟩
  refine⟨h.size,h.defers,h.fr,h.keeps,⟨?_,h.st.hr,?_,?_⟩,?_⟩
  · intro u hu;rcases List.mem_cons.1 hu with h'|hu
    · subst h';refine⟨fun j v hj=>ks.1 j v ?_,fun j hj=>ks.2.1 j (by simp at hj ⊢;omega),fun x hx=>ks.2.2 x hx⟩;have:j<xs.length:=(List.getElem?_eq_some_iff.1 hj).1;show(xs++ys)[j]? =_;rw[List.getElem?_append_left this];exact hj
    · rcases List.mem_cons.1 hu with h'|hu
      · subst h';refine⟨fun j v hj=>?_,fun j hj=>?_,fun x hx=>by cases hx⟩
        · have:=ks.1 (xs.length+j) v (by
            show(xs++ys)[xs.length+j]? =_;rw[List.getElem?_append_right Om];simpa using hj)
          rw[←Nat.add_assoc] at this;exact this
        · have:=ks.2.1 (xs.length+j) (by simp at hj ⊢;omega);rw[←Nat.add_assoc] at this;exact this
      · exact h.st.hl u (List.mem_cons_of_mem _ hu)
  · refine List.Pairwise.cons (fun u hu=>?_) (List.Pairwise.cons (fun u hu=>?_) pc.2)
    · rcases List.mem_cons.1 hu with h'|hu
      · subst h';intro b' j h1 h2;have a1:=h1.2.2;have a2:=h2.2.1;simp at a1 a2;omega
      · exact fun b' j h1 h2=>pc.1 u hu b' j (hx b' j h1) h2
    · exact fun b' j h1 h2=>pc.1 u hu b' j (hy b' j h1) h2
  · intro u hu t ht;rcases List.mem_cons.1 hu with h'|hu
    · subst h';exact fun b' j h1 h2=>h.st.lr _ List.mem_cons_self t ht b' j (hx b' j h1) h2
    · rcases List.mem_cons.1 hu with h'|hu
      · subst h';exact fun b' j h1 h2=>h.st.lr _ List.mem_cons_self t ht b' j (hy b' j h1) h2
      · exact h.st.lr u (List.mem_cons_of_mem _ hu) t ht
  · intro u hu b' j hh;rcases List.mem_cons.1 hu with h'|hu
    · subst h';exact h.own _ List.mem_cons_self b' j (hx b' j hh)
    · rcases List.mem_cons.1 hu with h'|hu
      · subst h';exact h.own _ List.mem_cons_self b' j (hy b' j hh)
      · exact h.own u (List.mem_cons_of_mem _ hu) b' j hh
theorem GN {b o o':Nat} {cs xs ys:List Value} {sh:Option (TypeId × Nat)} (i:Nat) (hi:nthS i l=some ⟨b,o,cs,sh⟩) (hc:cs=xs++ys) (ho:o'=o+xs.length) {a:Act} {w:World} (h:At K ρ l r a w):At K ρ (⟨b,o,xs,sh⟩::⟨b,o',ys,none⟩::l.eraseIdx i) r a w:=by
  have hp:l.Perm (⟨b,o,cs,sh⟩::l.eraseIdx i):=by
    have h1:=jP i ⟨b,o,cs,sh⟩ _ l hi;rwa [jb i _ l hi] at h1
  subst hc;exact(h.perm hp).VP ho
theorem G.GN {c:Code} {b o o':Nat} {cs xs ys:List Value} {sh:Option (TypeId × Nat)} (i:Nat) (hi:nthS i l=some ⟨b,o,cs,sh⟩) (hc:cs=xs++ys) (ho:o'=o+xs.length) (h:G P K Q c ρ (⟨b,o,xs,sh⟩::⟨b,o',ys,none⟩::l.eraseIdx i) r):G P K Q c ρ l r:=
  fun a w ha=>h a w (YtekcchgffhphbaaGreatDoor.GN i hi hc ho ha)
end
def TQ (P:Program) (e:Nat) (i:TypeInfo) (fl:Field):Bool:=decide (i.size=0∧P.cellsOf e≠0∧byteOfCell P P.depth e 0=some 0∧fl.offset<P.cellsOf e∧byteOfCell P P.depth e fl.offset=some fl.byteOffset)
def fieldOff0 (P:Program) (s f e:Nat):Option Nat:=
  match P.underlying s with
  |some (.struct fs)=>match fs[f]? with
    |some fl=>match P.info? fl.type with
      |some i=>match TQ P e i fl with
        |true=>some fl.offset
        |false=>none
      |none=>none
    |none=>none
  |_=>none
section
variable {P:Program} {ρ:ba} {l r:List aU} {o:Oper} {s f n:Nat} {x:Operand}
theorem adH {sg:aU} {e c:Nat} (i:Nat) (hs:nthS i l=some sg) (VQ:sg.sh=some (e,c)) (ho:o.op=.fieldAddr s x f) (hx:ev ρ x=some (.pointer (some ⟨sg.b,0,none⟩))) (hP:fieldOff0 P s f e=some n):wx P ρ l r o (.pointer (some ⟨sg.b,n,none⟩)):=fun ac w ha jl=>by
  have hw:=(jl.hl sg (ed _ _ _ hs)).2.2 _ VQ;unfold fieldOff0 at hP;cases hu:P.underlying s with
  |none=>simp[hu] at hP
  |some D=>
    cases D<;>simp[hu] at hP;rename_i fs;cases hf:fs[f]? with
    |none=>simp[hf] at hP
    |some fl=>
      simp only[hf] at hP;cases hi:P.info? fl.type with
      |none=>simp[hi] at hP
      |some i=>
        simp only[hi] at hP;cases hc:TQ P e i fl with
        |false=>simp[hc] at hP
        |true=>
          simp only[hc] at hP;obtain⟨h0,h1,h2,h3,h4⟩:=of_decide_eq_true hc;have hn:=Option.some.inj hP;subst hn;simp[execOp,ho,bU ha hx,Instr.fieldAt,br hu,hf,Instr.sureAddr,fieldPlace,partAt,byteOf,noView,viewAt,sizeOf,ly hi,h0,h1,h2,h4,hw,Nat.mod_eq_of_lt h3,Nat.div_eq_of_lt h3]
end
theorem H8 {b o:Nat} {cs ds:List Value} {sh:Option (TypeId × Nat)} {n:Nat} {w:World} (h:(⟨b,o,cs,sh⟩:aU).pE w) (hd:cs.take n=ds):(⟨b,o,ds,none⟩:aU).pE w:=by
  subst hd;refine⟨fun j v hj=>h.1 j v ?_,fun j hj=>h.2.1 j ?_,fun x hx=>by cases hx⟩
  · have h1:(cs.take n)[j]? =some v:=hj;have fg:j<(cs.take n).length:=(List.getElem?_eq_some_iff.1 h1).1;rw[List.length_take] at fg;rwa [List.getElem?_take,if_pos Om] at h1
  · have:j<(cs.take n).length:=hj;rw[List.length_take] at this;show j<cs.length;omega
theorem bI.front {P:Program} {f:FuncId} {args:List Value} {l r:List aU} {ee:Value→List aU→Prop} {b o n:Nat} {cs ds:List Value} {sh:Option (TypeId × Nat)} (hd:cs.take n=ds) (h:bI P f args l (⟨b,o,ds,none⟩::r) ee):bI P f args l (⟨b,o,cs,sh⟩::r) ee:=by
  have nU:∀b' j:Nat,(⟨b,o,ds,none⟩:aU).has b' j→(⟨b,o,cs,sh⟩:aU).has b' j:=fun b' j ⟨h1,h2,h3⟩=>⟨h1,h2,by
    subst hd;have h4:j<o+(cs.take n).length:=h3;rw[List.length_take] at h4;show j<o+cs.length;omega⟩
  refine⟨h.can,fun w jl=>?_⟩;have VR:St l (⟨b,o,ds,none⟩::r) w:=⟨jl.hl,fun s hs=>by
    rcases List.mem_cons.1 hs with h'|h'
    · subst h';exact H8 (jl.hr _ List.mem_cons_self) hd
    · exact jl.hr s (List.mem_cons_of_mem _ h'),jl.pw,fun s hs t ht=>by
    rcases List.mem_cons.1 ht with h'|h'
    · subst h';exact fun b' j h1 h2=>jl.lr s hs _ List.mem_cons_self b' j h1 (nU b' j h2)
    · exact jl.lr s hs t (List.mem_cons_of_mem _ h')⟩
  refine(h.run w VR).mono fun e w' ⟨v,l',h1,h2,h3,h4,h5⟩=>⟨v,l',h1,h2,h3,⟨h4.hl,?_,h4.pw,?_⟩,h5⟩
  · intro s hs;exact(jl.hr s hs).Jt h3 fun t ht=>jl.lr t ht s hs
  · intro s hs t ht;intro b' j h6 h7;rcases h5 s hs b' j h6 with ⟨u,hu,TD⟩|wq
    · exact jl.lr u hu t ht b' j TD h7
    · have:=(jl.hr t ht).lt h7;omega
theorem bI.TR {P:Program} {f:FuncId} {args:List Value} {l r:List aU} {s t:aU} {ee:Value→List aU→Prop} (h:bI P f args l (s::t::r) ee):bI P f args l (t::s::r) ee:=by
  have m:∀x,x ∈ s::t::r↔x ∈ t::s::r:=fun x=>by simp only[List.mem_cons];constructor<;>(rintro (h|h|h)<;>simp[h])
  refine⟨h.can,fun w jl=>?_⟩;refine(h.run w ⟨jl.hl,fun x hx=>jl.hr x ((m x).1 hx),jl.pw,fun x hx y hy=>jl.lr x hx y ((m y).1 hy)⟩).mono fun e w' ⟨v,l',h1,h2,h3,h4,h5⟩=>⟨v,l',h1,h2,h3,⟨h4.hl,fun x hx=>h4.hr x ((m x).2 hx),h4.pw,fun x hx y hy=>h4.lr x hx y ((m y).2 hy)⟩,h5⟩
section
variable {P:Program} {ρ:ba} {o:Oper} {x y:Operand} {ty cT:TypeId}
theorem wrap32 (w:Nat):(BitVec.ofInt 32 (IntKind.wrap .i32 ((w:Nat):Int))).toNat=w%2^32:=by
  rw[BitVec.toNat_ofInt];simp only[IntKind.wrap,IntKind.bits,IntKind.signed];simp;omega
theorem xS {w m n:Nat} (ho:o.op=.binOp .and ty x y cT) (hx:ev ρ x=some (.int .i32 (IntKind.wrap .i32 ((w:Nat):Int)))) (hy:ev ρ y=some (.int .i32 ((m:Nat):Int))) (hm:m=2^n-1) (hn:n≤31):bB P ρ o (.int .i32 ((w%2^n:Nat):Int)):=(u5 ho hx hy).cast (by
  have hp:(2:Nat)^n≤2^31:=Nat.pow_le_pow_right Om hn;have hq:=Nat.pow_pos (n:=n) (show 0<2 by omega);have fg:=Nat.mod_lt w hq;have h2:(BitVec.ofInt 32 ((m:Nat):Int)).toNat=m:=f' 32 m Om;rw[BitVec.toNat_and,show IntKind.bits .i32=32 from rfl,wrap32,h2,hm,Nat.and_two_pow_sub_one_eq_mod,Nat.mod_mod_of_dvd _ (Nat.pow_dvd_pow 2 Om)];rw[IntWalk.i32_in _ ⟨Om,Om⟩])
end
section
variable {P:Program} {K:Kx} {Q:Exit→Act→World→Prop} {ρ:ba} {l r:List aU} {L rest:List Oper} {o:Oper} {t:TypeId} {x:Operand}
theorem A6 {d n:Nat} {cs:List Value} (ho:o.op=.box t x) (hx:ev ρ x=some (.agg cs.toArray)) (hl:cs.length=n) (hd:o.dst=some d) (hn:Nat.blt d K.n=true):
    oL P K ρ l r o (fun ρ' l'=>∃b,ρ'=(d,.pointer (some ⟨b,0,none⟩))::ρ∧l'=⟨b,0,cs,some (t,n)⟩::l):=hl▸Kw ho hx hd hn
end
section
variable {P:Program} {ρ:ba} {o:Oper} {x y z u:Operand} {t:TypeId} {k k' k'':IntKind} {b q len cap lo hi m sz:Nat}
theorem adI {q':Nat} (ho:o.op=.slice t x (some y) (some z) (some u)) (hx:ev ρ x=some (.slice (some ⟨b,q,none⟩) len cap)) (hy:ev ρ y=some (.int k (lo:Nat))) (hz:ev ρ z=some (.int k' (hi:Nat))) (hu':ev ρ u=some (.int k'' (m:Nat))) (hP:cy P t=some sz) (h:lo≤hi∧hi≤m∧m≤cap∧lo<m) (hq:q+lo*sz=q'):bB P ρ o (.slice (some ⟨b,q',none⟩) (hi-lo) (m-lo)):=by
  subst hq;intro ac ha w;unfold cy at hP;cases hu:P.underlying t with
  |none=>simp[hu] at hP
  |some D=>
    cases D<;>simp[hu] at hP;simp[execOp,ho,bU ha hx,bU ha hy,bU ha hz,bU ha hu',Instr.sliceAt,br hu,Instr.slice,Instr.sliceBounds,Instr.sliceBound,asIntOf,du hP,h.1,h.2.1,h.2.2.1,dK,show¬m=lo by omega]
end
section
variable {P:Program} {K:Kx} {Q:Exit→Act→World→Prop} {ρ:ba} {l r:List aU} {L rest:List Oper} {o:Oper} {d:Nat}
end
end Go.Proofs.YtekcchgffhphbaaGreatDoor
namespace Go.Proofs.YtekcchgffhphbaaGreatDoor
theorem kv.ku {xs A:List Nat} {k len i:Nat} {T:List Cell} {s:BR} (h:kv xs k len T A i s) (hb:Bytes xs) (ho:32≤s.rd→4≤s.off):kv xs k len T A i (s.ku xs k)∧(s.ku xs k).rd≤32∧s.off≤(s.ku xs k).off+4∧(s.ku xs k).off≤s.off:=by
  obtain⟨h1,h2⟩:=h.pos.ku hb ho;exact⟨⟨h1⟩,h2⟩
theorem kv.fL {xs A:List Nat} {k len i:Nat} {T:List Cell} {s:BR} (h:kv xs k len T A i s) (hb:Bytes xs):kv xs k len T A i (BR.fL xs k s)∧((BR.fL xs k s).rd≤32∨(BR.fL xs k s).off=0)∧(BR.fL xs k s).off≤s.off:=by
  obtain⟨h1,h2⟩:=h.pos.fL hb (fun _ _=>Om);exact⟨⟨h1⟩,h2⟩
theorem vn {W ys:List Nat} {j:Nat} (h:j+ys.length≤W.length):(cH W j ys).take (j+ys.length)=W.take j++ys:=by
  unfold cH;rw[List.take_append_of_le_length Oz,List.take_of_length_le Oz]
theorem KE {text:List Nat} {i:Nat} (h:i+4≤text.length):text.take i++[text.getD i 0,text.getD (i+1) 0,text.getD (i+2) 0,text.getD (i+3) 0]=text.take (i+4):=by
  rw[fV (i:=i+3) Om,fV (i:=i+2) Om,fV (i:=i+1) Om,fV (i:=i) Om];simp
theorem l5 {W text:List Nat} {i:Nat} (h:W.take i=text.take i) (hl:i+1≤W.length) (ht:i<text.length):(cH W i [text.getD i 0]).take (i+1)=text.take (i+1):=by
  have:=vn (W:=W) (ys:=[text.getD i 0]) (j:=i) (by simpa using hl);rw[show i+[text.getD i 0].length=i+1 from rfl] at this;rw[this,h,fV ht]
theorem jy {W text:List Nat} {i:Nat} (h:W.take i=text.take i) (hl:i+2≤W.length) (ht:text.length=i+2):(cH W i [text.getD i 0,text.getD (i+1) 0]).take text.length=text:=by
  have:=vn (W:=W) (ys:=[text.getD i 0,text.getD (i+1) 0]) (j:=i) (by simpa using hl);rw[show i+[text.getD i 0,text.getD (i+1) 0].length=i+2 from rfl] at this;rw[ht,this,h];have h2:=fV (xs:=text) (i:=i+1) Om;rw[fV (i:=i) Om,List.take_of_length_le Om] at h2;rw[List.append_assoc] at h2;exact h2.symm
theorem adJ {W M text:List Nat} {i:Nat} (h:M.take i=text.take i) (hl:i≤W.length) (hM:i≤M.length):(cH W 0 (M.take i)).take i=text.take i:=by
  have:=vn (W:=W) (ys:=M.take i) (j:=0) (by rw[List.length_take];omega);rw[Nat.zero_add,List.length_take,Nat.min_eq_left hM] at this;rw[this,h];simp
theorem oY (n:Nat):n&&&63=n%64:=Nat.and_two_pow_sub_one_eq_mod n 6
def xT (P C S:List Nat) (u:Nat):Prop:=∀x,x<P.length→S.getD x 0=P.getD x 0+(C.take u).count x
theorem xT.step {P C S:List Nat} {u s:Nat} (h:xT P C S u) (hu:u<C.length) (hs:C.getD u 0=s) (hS:P.length≤S.length) (kL:s<P.length):xT P C (S.set s (S.getD s 0+1)) (u+1):=fun x hx=>by
  rw[fV hu,hs,List.count_append];by_cases e:x=s
  · subst e;rw[List.count_singleton_self,kx Om,if_pos rfl,h x hx];omega
  · rw[List.count_singleton];have:(s==x)=false:=by simp;omega
    rw[jh e,h x hx];simp[this]
theorem CH {X c m N:Nat} (h:c+m≤N):X/2^c%2^m=X%2^N/2^c%2^m:=by
  have e:(2:Nat)^N=2^c*2^(N-c):=by rw[←Nat.pow_add];congr 1;omega
  rw[e,Nat.mod_mul_right_div_self];exact(Nat.mod_mod_of_dvd _ (Nat.pow_dvd_pow 2 Om)).symm
theorem KF {xs:List Nat} (hb:Bytes xs) {k len off c m:Nat} (ho:off+4≤len) (hm:c+m≤32):dP xs (k+off)/2^c%2^m=tailV xs k len/2^(8*off+c)%2^m:=by
  have h1:=kW xs k off (len-off);rw[show off+(len-off)=len by omega] at h1;have h2:tailV xs k len/2^(8*off)=tailV xs (k+off) (len-off):=by
    rw[h1,Nat.add_mul_div_right _ _ (Nat.pow_pos Om),Nat.div_eq_of_lt (iQ hb k off),Nat.zero_add]
  rw[Nat.pow_add, ←Nat.div_div_eq_div_mul,h2,CH (N:=32) (X:=tailV xs (k+off) (len-off)) hm];have h3:=vl hb (k+off) (m:=4) (n:=len-off) Om;rw[show 8*4=32 from rfl] at h3;have h4:dP xs (k+off)=tailV xs (k+off) 4:=by rw[xM hb];simp only[tailV];simp
  rw[h3,h4]
theorem oZ {a b m n:Nat} (h:m≤n) (e:a%2^n=b):a%2^m=b%2^m:=by
  rw[←e];exact(Nat.mod_mod_of_dvd _ (Nat.pow_dvd_pow 2 h)).symm
theorem zT.win {xs ys bs:List Nat} {k len p off c m:Nat} (hL:zT ys len p bs) (hb:Bytes xs) (he:tailV xs k len=tailV ys 0 len) (ho:off+4≤len) (hp:8*off+c=p) (hm:c+m≤32) (Jc:m≤bs.length):dP xs (k+off)/2^c%2^m=lowV bs%2^m:=by
  rw[KF hb ho hm,hp,he];exact oZ Jc hL.2
theorem EM {a b:List Nat} (ha:pG a):lowV (a++b)%2^a.length=lowV a:=by
  rw[ib,Nat.add_mul_mod_self_left,Nat.mod_eq_of_lt (wV ha)]
theorem zT.front {xs ys a bs:List Nat} {k len p off c:Nat} (hL:zT ys len p (a++bs)) (ha:pG a) (hb:Bytes xs) (he:tailV xs k len=tailV ys 0 len) (ho:off+4≤len) (hp:8*off+c=p) (hm:c+a.length≤32):dP xs (k+off)/2^c%2^a.length=lowV a:=by
  rw[hL.win hb he ho hp hm Oi,EM ha]
theorem KG {w dQ v:Nat} (h:w%2^(jQ dQ v).length=lowV (jQ dQ v)) (hv:v≤dQ) (h0:0<dQ):
    (w%2^(av dQ-1)<2^av dQ-1-dQ∧w%2^(av dQ-1)=v∧(jQ dQ v).length=av dQ-1)∨
      (2^av dQ-1-dQ≤w%2^(av dQ-1)∧(jQ dQ v).length=av dQ∧((2^(av dQ-1)≤w%2^av dQ∧w%2^av dQ=v+(2^av dQ-1-dQ))∨(w%2^av dQ<2^(av dQ-1)∧w%2^av dQ=v))):=by
  obtain⟨k,hk⟩:∃k,av dQ=k+1:=⟨av dQ-1,by have:=dT h0;omega⟩;have zc:=tC h0;have y8:=jd dQ;have hp:(2:Nat)^(k+1)=2^k*2:=Nat.pow_succ ..;by_cases h1:v<2^av dQ-1-dQ
  · have e:jQ dQ v=fU v (av dQ-1):=if_pos h1;rw[e,bY,gO] at h;rw[hk,Nat.add_sub_cancel] at zc h ⊢;rw[hk] at y8 h1;rw[Nat.mod_eq_of_lt (show v<2^k by omega)] at h;exact .inl ⟨Om,h,by rw[e,bY,hk,Nat.add_sub_cancel]⟩
  · by_cases h2:v<2^(av dQ-1)
    · have e:jQ dQ v=fU v (av dQ):=by unfold jQ;rw[if_neg h1,if_pos h2]
      rw[e,bY,gO] at h;have h3:=oZ (show k≤av dQ by omega) h;rw[hk] at y8 h1 h h3;rw[hk,Nat.add_sub_cancel] at zc h2 ⊢;rw[Nat.mod_eq_of_lt (show v<2^(k+1) by omega)] at h h3;rw[Nat.mod_eq_of_lt h2] at h3;exact .inr ⟨Om,by rw[e,bY,hk],.inr ⟨Om,h⟩⟩
    · have e:jQ dQ v=fU (v+(2^av dQ-1-dQ)) (av dQ):=by unfold jQ;rw[if_neg h1,if_neg h2]
      rw[e,bY,gO] at h;have h3:=oZ (show k≤av dQ by omega) h;rw[hk] at y8 h1 h h3;rw[hk,Nat.add_sub_cancel] at zc h2 ⊢;have fg:v+(2^(k+1)-1-dQ)<2^(k+1):=Om;rw[Nat.mod_eq_of_lt fg] at h h3;have h4:(v+(2^(k+1)-1-dQ))%2^k=v+(2^(k+1)-1-dQ)-2^k:=by
        rw[Nat.mod_eq_sub_mod (show v+(2^(k+1)-1-dQ)≥2^k by omega),Nat.mod_eq_of_lt Om]
      rw[h4] at h3;exact .inr ⟨Om,by rw[e,bY,hk],.inl ⟨Om,h⟩⟩
theorem mB {dQ v:Nat}:av dQ-1≤(jQ dQ v).length∧(jQ dQ v).length≤av dQ:=by
  unfold jQ;split
  · rw[bY];omega
  · split<;>rw[bY]<;>omega
theorem Rl {w z:Nat} (h:w%2^(cN z).length=lowV (cN z)):(3≤z∧w%4=3∧w/4%2^(cN (z-3)).length=lowV (cN (z-3))∧(cN z).length=2+(cN (z-3)).length)∨(z<3∧w%4=z∧(cN z).length=2):=by
  by_cases h3:3≤z
  · have e:=CG h3;have hl:(cN z).length=2+(cN (z-3)).length:=by rw[e,List.length_append,bY]
    rw[hl,e,ib,gO,bY,Nat.pow_add] at h;have h1:=congrArg (· %2^2) h;have h2:=congrArg (· /2^2) h;simp only[Nat.mod_mul_right_mod,Nat.mod_mul_right_div_self] at h1 h2;exact .inl ⟨h3,Om,by rw[show(4:Nat)=2^2 from rfl,h2];omega,hl⟩
  · have e:=EK (show z<3 by omega);rw[e,bY,gO] at h;exact .inr ⟨Om,Om,by rw[e,bY]⟩
theorem qR:∀z,(cN z).length=2*(z/3)+2
  |0=>rfl
  |1=>rfl
  |2=>rfl
  |m+3=>by
    show(fU 3 2++cN m).length=_;rw[List.length_append,bY,qR m];omega
theorem CJ:∀z,lowV (cN z)+1<2^(cN z).length
  |0=>by decide
  |1=>by decide
  |2=>by decide
  |m+3=>by
    show lowV (fU 3 2++cN m)+1<2^(fU 3 2++cN m).length;have:=CJ m;rw[List.length_append,ib,gO,bY,Nat.pow_add];omega
theorem VS:∀n,n≤16→65535%2^n+1=2^n:=by decide
theorem H9 {w z:Nat} (h:w%2^(cN z).length=lowV (cN z)) (hz:z≤20):w%65536≠65535:=fun e=>by
  have hl:=qR z;have h1:=oZ (show(cN z).length≤16 by omega) (show w%2^16=65535 from e);rw[h] at h1;have h2:=CJ z;have h3:=VS (cN z).length Om;omega
theorem lu {n k:Nat} (h1:2^(k-1)≤n) (h2:n<2^k) (hk:1≤k):av n=k:=by
  have a:=dx h2;have b:=jd n;have c:k-1<av n:=(Nat.pow_lt_pow_iff_right Om).1 (Nat.lt_of_le_of_lt h1 b);omega
def bl (L n c:Nat):Nat:=if n=1 then L else if n*2^(L-(av (n-1)-1))≤c then L-(av (n-1)-1) else L-(av (n-1)-1)-1
theorem zU {n:Nat} (h:0<n):∃k,av n=k+1∧2^k≤n∧n<2^(k+1):=by
  have h1:=dT h;have h2:=tC h;have h3:=jd n;exact⟨av n-1,Om,h2,by rwa [show av n-1+1=av n by omega]⟩
theorem mC {L n c:Nat} (h1:1≤n) (hn:n≤2^L) (hc:2^L≤c∧c<2^(L+1)):bl L n c≤L∧n≤c/2^bl L n c∧c/2^bl L n c<2*n:=by
  unfold bl;by_cases e:n=1
  · rw[if_pos e];subst e;have hp:0<2^L:=Nat.two_pow_pos _;refine⟨Nat.le_refl _,?_,?_⟩
    · exact(Nat.le_div_iff_mul_le hp).2 Om
    · exact(Nat.div_lt_iff_lt_mul hp).2 (by rw[Nat.pow_succ] at hc;omega)
  · rw[if_neg e];obtain⟨k,hk,k1,k2⟩:=zU (n:=n-1) Om;rw[hk,Nat.add_sub_cancel];have hkL:k<L:=by
      apply Classical.byContradiction;intro wq;have:2^L≤2^k:=Nat.pow_le_pow_right Om Om;omega
    have e1:2^(L+1)=2^(k+1)*2^(L-k):=by rw[←Nat.pow_add];congr 1;omega
    have e2:2^L=2^(k+1)*2^(L-k-1):=by rw[←Nat.pow_add];congr 1;omega
    have e3:2^(L-k)=2*2^(L-k-1):=by
      have:2^(L-k-1+1)=2^(L-k-1)*2:=Nat.pow_succ _ _;rw[show L-k-1+1=L-k by omega] at this;omega
    have e4:2^(k+1)=2*2^k:=by rw[Nat.pow_succ];omega
    split
    · rename_i wq;have hp:0<2^(L-k):=Nat.two_pow_pos _;refine⟨Om,(Nat.le_div_iff_mul_le hp).2 wq,(Nat.div_lt_iff_lt_mul hp).2 ?_⟩;have:2^(k+1)*2^(L-k)≤2*n*2^(L-k):=Nat.mul_le_mul_right _ Om;omega
    · rename_i fg;have hp:0<2^(L-k-1):=Nat.two_pow_pos _;refine⟨Om,(Nat.le_div_iff_mul_le hp).2 ?_,(Nat.div_lt_iff_lt_mul hp).2 ?_⟩
      · have:n*2^(L-k-1)≤2^(k+1)*2^(L-k-1):=Nat.mul_le_mul_right _ Om;omega
      · have e5:n*2^(L-k)=2*n*2^(L-k-1):=by rw[e3, ←Nat.mul_assoc,Nat.mul_comm n 2]
        omega
theorem KH {L n c:Nat} (h1:1≤n) (hn:n≤2^L) (hc:2^L≤c∧c<2^(L+1)):
    L-(av (c/2^bl L n c)-1)=bl L n c∧(c/2^bl L n c)*2^bl L n c-2^L+c%2^bl L n c=c-2^L∧2^L≤(c/2^bl L n c)*2^bl L n c:=by
  obtain⟨hl,ha,hb⟩:=mC h1 hn hc;generalize bl L n c=b at*;have hp:0<2^b:=Nat.two_pow_pos _;have e1:2^L=2^(L-b)*2^b:=by rw[←Nat.pow_add];congr 1;omega
  have e2:2^(L+1)=2^(L-b+1)*2^b:=by rw[←Nat.pow_add];congr 1;omega
  have h3:2^(L-b)≤c/2^b:=(Nat.le_div_iff_mul_le hp).2 Om;have h4:c/2^b<2^(L-b+1):=(Nat.div_lt_iff_lt_mul hp).2 Om;have h5:av (c/2^b)=L-b+1:=lu (by simpa using h3) h4 Om;have h6:2^L≤(c/2^b)*2^b:=by rw[e1];exact Nat.mul_le_mul_right _ h3
  have h7:=Nat.div_add_mod c (2^b);rw[Nat.mul_comm] at h7;refine⟨by rw[h5];omega,Om,h6⟩
def kZ (L n:Nat):Nat:=if n=1 then L*65536-2^L else (L-(av (n-1)-1))*65536-n*2^(L-(av (n-1)-1))
theorem A7 {L n:Nat} (EN:n≠1) (h1:1≤n) (hn:n≤2^L):1≤L-(av (n-1)-1)∧L-(av (n-1)-1)≤L∧n*2^(L-(av (n-1)-1))≤2^(L+1):=by
  obtain⟨k,hk,k1,k2⟩:=zU (n:=n-1) Om;rw[hk,Nat.add_sub_cancel];have hkL:k<L:=by
    apply Classical.byContradiction;intro wq;have:2^L≤2^k:=Nat.pow_le_pow_right Om Om;omega
  have e1:2^(L+1)=2^(k+1)*2^(L-k):=by rw[←Nat.pow_add];congr 1;omega
  refine⟨Om,Om,?_⟩;rw[e1];exact Nat.mul_le_mul_right _ Om
theorem KI {L n c:Nat} (hL:1≤L∧L≤12) (h1:1≤n) (hn:n≤2^L) (hc:2^L≤c∧c<2^(L+1)):(c+kZ L n)/65536=bl L n c:=by
  have CK:2^(L+1)≤2^13:=Nat.pow_le_pow_right Om Om;have CL:2^L≤2^12:=Nat.pow_le_pow_right Om Om;unfold kZ bl;by_cases e:n=1
  · rw[if_pos e,if_pos e];omega
  · rw[if_neg e,if_neg e];obtain⟨m1,m2,m3⟩:=A7 e h1 hn;generalize L-(av (n-1)-1)=m at*;generalize n*2^m=q at*;split<;>omega
theorem H' {L n:Nat} (hL:1≤L∧L≤12) (h1:1≤n) (hn:n≤2^L):(((kZ L n+32768)/65536)*65536-kZ L n)/2^((kZ L n+32768)/65536)=n∧kZ L n≤((kZ L n+32768)/65536)*65536:=by
  have CK:2^(L+1)≤2^13:=Nat.pow_le_pow_right Om Om;have CL:2^L≤2^12:=Nat.pow_le_pow_right Om Om;unfold kZ;by_cases e:n=1
  · rw[if_pos e,e];have e1:(L*65536-2^L+32768)/65536=L:=Om;rw[e1,show L*65536-(L*65536-2^L)=2^L by omega];exact⟨Nat.div_self (Nat.two_pow_pos _),Om⟩
  · rw[if_neg e];obtain⟨m1,m2,m3⟩:=A7 e h1 hn;generalize L-(av (n-1)-1)=m at*;have e1:(m*65536-n*2^m+32768)/65536=m:=Om;rw[e1,show m*65536-(m*65536-n*2^m)=n*2^m by omega];exact⟨Nat.mul_div_cancel _ (Nat.two_pow_pos _),Om⟩
def nJ (size m:Nat):List Nat:=((List.range size).map fun j=>j*fk size%size).filter fun p=>decide (p+m<size)
def k7 (size m:Nat):List Nat:=nJ size m++(List.range m).map fun i=>size-1-i
def goM (size m:Nat):Nat→Nat→Nat
  |0,p=>p
  |f+1,p=>if p+m<size then p else goM size m f ((p+fk size)%size)
def stM (size m:Nat):Nat→Nat→Nat
  |0,_=>0
  |f+1,p=>if p+m<size then 0 else stM size m f ((p+fk size)%size)+1
theorem zV:∀m,m<14→(k7 32 m).Perm (List.range 32)∧(k7 64 m).Perm (List.range 64):=by decide+kernel
theorem zW:∀m,m<14→((List.range 32).map fun u=>(k7 32 m).idxOf u).Perm (List.range 32)∧((List.range 64).map fun u=>(k7 64 m).idxOf u).Perm (List.range 64):=by decide+kernel
theorem tP:∀m,m<14→((nJ 32 m).length=32-m∧(nJ 32 m).getD 0 0=0)∧(nJ 64 m).length=64-m∧(nJ 64 m).getD 0 0=0:=by decide+kernel
theorem VT:∀m,m<14→∀p,p<32→¬p+m<32→goM 32 m 32 p=goM 32 m 32 ((p+23)%32)∧stM 32 m 32 ((p+23)%32)<stM 32 m 32 p:=by decide+kernel
theorem VU:∀m,m<14→∀p,p<64→¬p+m<64→goM 64 m 64 p=goM 64 m 64 ((p+43)%64)∧stM 64 m 64 ((p+43)%64)<stM 64 m 64 p:=by decide+kernel
theorem KJ:∀m,m<14→∀i,i<32-m→goM 32 m 32 (((nJ 32 m).getD i 0+23)%32)=(nJ 32 m).getD ((i+1)%(32-m)) 0:=by decide+kernel
theorem KK:∀m,m<14→∀i,i<64-m→goM 64 m 64 (((nJ 64 m).getD i 0+43)%64)=(nJ 64 m).getD ((i+1)%(64-m)) 0:=by decide+kernel
def qb (size m:Nat):Prop:=(size=32∨size=64)∧m<14
section
variable {size m:Nat}
theorem qb.perm (h:qb size m):(k7 size m).Perm (List.range size):=by
  rcases h with ⟨rfl|rfl,hm⟩
  · exact(zV m hm).1
  · exact(zV m hm).2
theorem qb.adK (h:qb size m):((List.range size).map fun u=>(k7 size m).idxOf u).Perm (List.range size):=by
  rcases h with ⟨rfl|rfl,hm⟩
  · exact(zW m hm).1
  · exact(zW m hm).2
theorem qb.len (h:qb size m):(nJ size m).length=size-m:=by
  rcases h with ⟨rfl|rfl,hm⟩
  · exact(tP m hm).1.1
  · exact(tP m hm).2.1
theorem qb.first (h:qb size m):(nJ size m).getD 0 0=0:=by
  rcases h with ⟨rfl|rfl,hm⟩
  · exact(tP m hm).1.2
  · exact(tP m hm).2.2
theorem qb.le (h:qb size m):m<14∧32≤size∧size≤64:=by
  rcases h with ⟨rfl|rfl,hm⟩<;>omega
theorem KL (h:qb size m) {p:Nat} (hp:p+m<size):goM size m size p=p:=by
  rcases h with ⟨rfl|rfl,hm⟩
  · simp only[goM,if_pos hp]
  · simp only[goM,if_pos hp]
theorem KM (h:qb size m) {p:Nat} (hp:p<size) (hn:¬p+m<size):goM size m size p=goM size m size ((p+fk size)%size)∧stM size m size ((p+fk size)%size)<stM size m size p:=by
  rcases h with ⟨rfl|rfl,hm⟩
  · exact VT m hm p hp hn
  · exact VU m hm p hp hn
theorem adL (h:qb size m) {i:Nat} (hi:i<size-m):goM size m size (((nJ size m).getD i 0+fk size)%size)=(nJ size m).getD ((i+1)%(size-m)) 0:=by
  rcases h with ⟨rfl|rfl,hm⟩
  · exact KJ m hm i hi
  · exact KK m hm i hi
theorem qb.VV (h:qb size m):(k7 size m).length=size:=by have:=h.perm.length_eq;simpa using this
theorem qb.nodup (h:qb size m):(k7 size m).Nodup:=h.perm.nodup_iff.2 List.nodup_range
theorem qb.inj (h:qb size m) {i j:Nat} (hi:i<size) (hj:j<size) (he:(k7 size m).getD i 0=(k7 size m).getD j 0):i=j:=by
  have h1:i<(k7 size m).length:=by rw[h.VV];exact hi
  have h2:j<(k7 size m).length:=by rw[h.VV];exact hj
  simp only[List.getD_eq_getElem?_getD,List.getElem?_eq_getElem h1,List.getElem?_eq_getElem h2,Option.getD_some] at he;have hp:=List.pairwise_iff_getElem.1 h.nodup;rcases Nat.lt_trichotomy i j with h3|h3|h3
  · exact absurd he (hp i j h1 h2 h3)
  · exact h3
  · exact absurd he.symm (hp j i h2 h1 h3)
theorem qb.met (h:qb size m) {u:Nat} (hu:u<size):(k7 size m).idxOf u<size∧(k7 size m).getD ((k7 size m).idxOf u) 0=u:=by
  have hm:u ∈ k7 size m:=h.perm.mem_iff.2 (List.mem_range.2 hu);have h1:=List.idxOf_lt_length_iff.2 hm;refine⟨by rwa [h.VV] at h1,?_⟩;simp[List.getD_eq_getElem?_getD,List.getElem?_eq_getElem h1]
theorem qb.seq (h:qb size m) {i:Nat} (hi:i<size-m):(k7 size m).getD i 0=(nJ size m).getD i 0:=by
  have:i<(nJ size m).length:=by rw[h.len];exact hi
  simp only[k7,List.getD_eq_getElem?_getD,List.getElem?_append_left this]
theorem qb.back (h:qb size m) {i:Nat} (hi:i<m):(k7 size m).getD (size-m+i) 0=size-1-i:=by
  have hl:=h.len;have hle:=h.le;simp only[k7,List.getD_eq_getElem?_getD];rw[List.getElem?_append_right Om,hl,show size-m+i-(size-m)=i by omega];simp[hi]
def qc (size m:Nat) (all:List Nat):List Nat:=(List.range size).map fun u=>all.getD ((k7 size m).idxOf u) 0
theorem zd (all:List Nat):(qc size m all).length=size:=by simp[qc]
theorem EO {all:List Nat} {u:Nat} (hu:u<size):(qc size m all).getD u 0=all.getD ((k7 size m).idxOf u) 0:=by simp[qc,List.getD_eq_getElem?_getD,hu]
theorem A8 (h:qb size m) {all:List Nat} (ha:all.length=size) (x:Nat):(qc size m all).count x=all.count x:=by
  have e1:all=(List.range size).map fun j=>all.getD j 0:=by
    apply List.ext_getElem (by simp[ha]);intro i h1 h2;simp[List.getD_eq_getElem?_getD,h1]
  have e2:qc size m all=((List.range size).map fun u=>(k7 size m).idxOf u).map fun j=>all.getD j 0:=by rw[qc,List.map_map];rfl
  conv=>rhs;rw[e1]
  rw[e2];exact(h.adK.map _).count_eq x
end
def n4 (cs:List Int):List Nat:=flatC 0 (cs.map Int.toNat)
def ck (cs:List Int):List Nat:=flatC 0 (cs.map fun n=>(-n).toNat)
def a8 (cs:List Int):List Nat:=cs.map Int.natAbs
structure cp (log:Nat) (cs:List Int):Prop where
  lg:log=5∨log=6
  sum:(a8 cs).sum=2^log
  len:cs.length≤13
  ge:∀c ∈ cs, -1≤c
  lt:∀c ∈ cs,c<2^log
def dA (log:Nat) (cs:List Int):List Nat:=qc (2^log) (ck cs).length (n4 cs++ck cs)
def e7 (log:Nat) (cs:List Int):List Cell:=buildD log (dA log cs) (a8 cs)
theorem zX:∀cs:List Int,(a8 cs).sum=(cs.map Int.toNat).sum+(cs.map fun n=>(-n).toNat).sum
  |[]=>rfl
  |n::cs=>by
    have:=zX cs;simp only[a8,List.map_cons,List.sum_cons] at this ⊢;omega
theorem GO:∀cs:List Int,(∀c ∈ cs, -1≤c)→(cs.map fun n=>(-n).toNat).sum≤cs.length
  |[],_=>Nat.le_refl _
  |n::cs,h=>by
    have:=GO cs fun c hc=>h c (List.mem_cons_of_mem _ hc)
    have h1:=h n List.mem_cons_self;simp only[List.map_cons,List.sum_cons,List.length_cons];omega
section
variable {log:Nat} {cs:List Int}
theorem l6 (cs:List Int):(ck cs).length=(cs.map fun n=>(-n).toNat).sum:=vm _ _
theorem o6 (cs:List Int):(n4 cs).length=(cs.map Int.toNat).sum:=vm _ _
theorem cp.size (h:cp log cs):2^log=32∨2^log=64:=by rcases h.lg with h|h<;>subst h<;>simp
theorem cp.sz (h:cp log cs):qb (2^log) (ck cs).length:=by
  refine⟨h.size,?_⟩;have:=GO cs h.ge;have:=h.len;rw[l6];omega
theorem cp.all (h:cp log cs):(n4 cs).length=2^log-(ck cs).length∧(n4 cs++ck cs).length=2^log:=by
  have h1:=zX cs;have h2:=h.sum;rw[List.length_append,o6,l6];omega
theorem gD:(dA log cs).length=2^log:=zd _
theorem j6 {f:Int→Nat} (h0:f 0=0) (cs:List Int) (i:Nat):(cs.map f).getD i 0=f (cs.getD i 0):=by
  simp only[List.getD_eq_getElem?_getD,List.getElem?_map];cases cs[i]? <;>simp[h0]
theorem tQ (h:cp log cs) (x:Nat):(dA log cs).count x=(a8 cs).getD x 0:=by
  rw[dA,A8 h.sz h.all.2,List.count_append,n4,ck,pX,pX,if_pos (Nat.zero_le _),if_pos (Nat.zero_le _),Nat.sub_zero,a8,j6 rfl,j6 rfl,j6 rfl];omega
theorem rE:(e7 log cs).length=2^log:=by rw[e7,rD,gD]
end
theorem EP {log:Nat} {C ns:List Nat} (hC:C.length=2^log) (ri:∀x,C.count x=ns.getD x 0) (hle:∀c ∈ ns,c<2^log) (Ia:1≤log) {u:Nat} (hu:u<2^log):
    ∃s k,(buildD log C ns).getD u (0,0,0)=CF log s k∧s=C.getD u 0∧s<ns.length∧k=ns.getD s 0+(C.take u).count s∧1≤k∧k<2*2^log∧k+1≤2*ns.getD s 0∧log-(av k-1)≤log∧2^log≤k*2^(log-(av k-1))∧k*2^(log-(av k-1))-2^log+2^(log-(av k-1))≤2^log:=by
  have Cr:∀s ∈ C,s<ns.length:=fun s hs=>by
    have h1:0<C.count s:=List.count_pos_iff.2 hs;rw[ri] at h1;apply Classical.byContradiction;intro hn;rw[List.getD_eq_getElem?_getD,List.getElem?_eq_none Om] at h1;simp at h1
  have hs:u<C.length:=by rw[hC];exact hu
  have hg:C.getD u 0=C[u]:=by simp[hs]
  have fg:C.getD u 0<ns.length:=by rw[hg];exact Cr _ (List.getElem_mem hs)
  refine⟨_,_,sq log _ ns u hs Cr,rfl,fg,rfl,?_⟩;have hc:(C.take u).count (C.getD u 0)+1≤ns.getD (C.getD u 0) 0:=by
    rw[←ri];have h1:(C.take (u+1)).count C[u]=(C.take u).count C[u]+1:=by rw[List.take_succ_eq_append_getElem hs,List.count_append,List.count_singleton_self]
    rw[hg, ←h1];exact(List.take_sublist _ _).count_le _
  generalize hs':C.getD u 0=s at*;generalize (C.take u).count s=q at*;have adM:=hle (ns.getD s 0) (by simp[List.getD_eq_getElem?_getD,fg]);generalize ns.getD s 0=n at*;have zc:1≤n+q:=Om;have y8:n+q<2^(log+1):=by rw[Nat.pow_succ];omega
  have hk3:n+q+1≤2*n:=Om;have yZ:=dT (show 0<n+q by omega);have tS:=tC (show 0<n+q by omega);have y0:=jd (n+q);have hb4:=dx y8;generalize av (n+q)=b at*;generalize n+q=k at*;have e1:(2:Nat)^log=2^(b-1)*2^(log-(b-1)):=by rw[←Nat.pow_add];congr 1;omega
  have e2:2*(2:Nat)^log=2^b*2^(log-(b-1)):=by
    rw[←Nat.pow_add,show b+(log-(b-1))=log+1 by omega,Nat.pow_succ,Nat.mul_comm]
  have h3:2^log≤k*2^(log-(b-1)):=by rw[e1];exact Nat.mul_le_mul_right _ tS
  have h4:(k+1)*2^(log-(b-1))≤2*2^log:=by rw[e2];exact Nat.mul_le_mul_right _ y0
  rw[Nat.add_mul,Nat.one_mul] at h4;refine⟨zc,by rw[Nat.pow_succ] at y8;omega,hk3,Om,h3,Om⟩
theorem cp.ER {log:Nat} {cs:List Int} (h:cp log cs):∀c ∈ a8 cs,c<2^log:=fun c hc=>by
  obtain⟨x,hx,rfl⟩:=List.mem_map.1 hc;have h1:=h.ge x hx;have h2:=h.lt x hx;have h3:=h.size;have e:((2:Int)^log)=((2^log:Nat):Int):=Oi;rw[e] at h2;omega
theorem o7 {log:Nat} {cs:List Int} (h:cp log cs) {u:Nat} (hu:u<2^log):
    ∃s k,(e7 log cs).getD u (0,0,0)=CF log s k∧s=(dA log cs).getD u 0∧s<cs.length∧k=(a8 cs).getD s 0+((dA log cs).take u).count s∧1≤k∧k<2*2^log∧k+1≤2*(a8 cs).getD s 0∧log-(av k-1)≤log∧2^log≤k*2^(log-(av k-1))∧k*2^(log-(av k-1))-2^log+2^(log-(av k-1))≤2^log:=by
  have:=EP gD (tQ h) h.ER (by rcases h.lg with h|h<;>omega) hu;rw[show(a8 cs).length=cs.length by simp[a8]] at this;exact this
def occC:List Nat→Nat→Nat→Nat
  |[],_,_=>0
  |x::t,s,j=>if x=s then (if j=0 then 0 else occC t s (j-1)+1) else occC t s j+1
theorem wW:∀(C:List Nat) (s j:Nat),j<C.count s→occC C s j<C.length∧C.getD (occC C s j) 0=s∧(C.take (occC C s j)).count s=j
  |[],s,j,h=>by simp at h
  |x::t,s,j,h=>by
    unfold occC;rw[List.count_cons] at h;by_cases e:x=s
    · rw[if_pos e];by_cases e2:j=0
      · rw[if_pos e2];subst e2;simp[e]
      · rw[if_neg e2];rw[if_pos (by simpa using e)] at h;obtain⟨h1,h2,h3⟩:=wW t s (j-1) Om;refine⟨by simp only[List.length_cons];omega,by rw[List.getD_cons_succ];exact h2,?_⟩;rw[List.take_succ_cons,List.count_cons,if_pos (by simpa using e),h3];omega
    · rw[if_neg e];rw[if_neg (by simpa using e)] at h;obtain⟨h1,h2,h3⟩:=wW t s j Om;refine⟨by simp only[List.length_cons];omega,by rw[List.getD_cons_succ];exact h2,?_⟩;rw[List.take_succ_cons,List.count_cons,if_neg (by simpa using e),h3];omega
theorem A9:∀(C:List Nat) (u:Nat),u<C.length→occC C (C.getD u 0) ((C.take u).count (C.getD u 0))=u
  |[],u,h=>by simp at h
  |x::t,0,h=>by simp[occC]
  |x::t,u+1,h=>by
    have hu:u<t.length:=by simpa using h
    have ih:=A9 t u hu;rw[List.getD_cons_succ,List.take_succ_cons,List.count_cons];unfold occC;by_cases e:x=t.getD u 0
    · have hx:(x==t.getD u 0)=true:=by simpa using e
      rw[if_pos e,hx];simp only[if_true];rw[if_neg (Nat.succ_ne_zero _),Nat.add_sub_cancel,ih]
    · have hx:(x==t.getD u 0)=false:=by simpa using e
      rw[if_neg e,hx];show occC t (t.getD u 0) (List.count (t.getD u 0) (List.take u t))+1=u+1;rw[ih]
def CM (L:Nat) (C ns:List Nat) (s c:Nat):Nat:=occC C s ((c+2^L)/2^bl L (ns.getD s 0) (c+2^L)-ns.getD s 0)
def encA (L:Nat) (C ns:List Nat):List Nat→List Nat
  |[]=>[]
  |s::t=>(if (encA L C ns t).length<2 then occC C s 0 else CM L C ns s ((encA L C ns t).getD 1 0))::encA L C ns t
theorem ic (L:Nat) (C ns:List Nat):∀t:List Nat,(encA L C ns t).length=t.length
  |[]=>rfl
  |s::t=>by simp[encA,ic L C ns t]
structure j7 (L:Nat) (C ns:List Nat):Prop where
  lg:1≤L∧L≤12
  len:C.length=2^L
  VW:∀x,C.count x=ns.getD x 0
  lt:∀c ∈ ns,c<2^L
section
variable {L:Nat} {C ns:List Nat}
theorem j7.le (h:j7 L C ns) (s:Nat):ns.getD s 0<2^L:=by
  rcases Nat.lt_or_ge s ns.length with hs|hs
  · exact h.lt _ (by simp[List.getD_eq_getElem?_getD,hs])
  · rw[List.getD_eq_getElem?_getD,List.getElem?_eq_none hs];exact Nat.two_pow_pos _
theorem j7.in (h:j7 L C ns):∀s ∈ C,s<ns.length:=fun s hs=>by
  have h1:0<C.count s:=List.count_pos_iff.2 hs;rw[h.VW] at h1;apply Classical.byContradiction;intro hn;rw[List.getD_eq_getElem?_getD,List.getElem?_eq_none Om] at h1;simp at h1
theorem j7.occ (h:j7 L C ns) {s j:Nat} (hj:j<ns.getD s 0):occC C s j<2^L∧(buildD L C ns).getD (occC C s j) (0,0,0)=CF L s (ns.getD s 0+j):=by
  obtain⟨h1,h2,h3⟩:=wW C s j (by rw[h.VW];exact hj);refine⟨by rwa [h.len] at h1,?_⟩;rw[sq L C ns _ h1 h.in,h2,h3]
theorem j7.step (h:j7 L C ns) {s c:Nat} (hs:1≤ns.getD s 0) (hc:c<2^L):CM L C ns s c<2^L∧((buildD L C ns).getD (CM L C ns s c) (0,0,0)).1=s∧
    ((buildD L C ns).getD (CM L C ns s c) (0,0,0)).2.1=bl L (ns.getD s 0) (c+2^L)∧((buildD L C ns).getD (CM L C ns s c) (0,0,0)).2.2+(c+2^L)%2^bl L (ns.getD s 0) (c+2^L)=c:=by
  have hn:=h.le s;have Js:2^L≤c+2^L∧c+2^L<2^(L+1):=by rw[Nat.pow_succ];omega
  obtain⟨e1,e2,e3⟩:=mC hs (Nat.le_of_lt hn) Js;obtain⟨b1,b2,b3⟩:=KH hs (Nat.le_of_lt hn) Js;obtain⟨o1,o2⟩:=h.occ (s:=s) (j:=(c+2^L)/2^bl L (ns.getD s 0) (c+2^L)-ns.getD s 0) Om;unfold CM;rw[o2,Nat.add_sub_cancel' e2];refine⟨o1,rfl,b1,?_⟩;show _*2^(L-(av _-1))-2^L+_=_;rw[b1];omega
theorem tT (i:Nat) (t:List Nat) (hi:i+2<t.length):(encA L C ns t).getD i 0=CM L C ns (t.getD i 0) ((encA L C ns t).getD (i+2) 0):=by
  induction i generalizing t with
  |zero=>
    match t,hi with
    |s::t,hi=>
      have hl:=ic L C ns t;simp only[List.length_cons] at hi;simp only[encA];rw[if_neg Om,List.getD_cons_zero,List.getD_cons_zero,List.getD_cons_succ]
  |succ i ih=>
    match t,hi with
    |s::t,hi=>
      simp only[encA,List.getD_cons_succ];exact ih t (by simp only[List.length_cons] at hi;omega)
theorem vo (i:Nat) (t:List Nat) (hi:i<t.length) (h2:t.length≤i+2):(encA L C ns t).getD i 0=occC C (t.getD i 0) 0:=by
  induction i generalizing t with
  |zero=>
    match t,hi with
    |s::t,hi=>
      have hl:=ic L C ns t;simp only[List.length_cons] at h2;simp only[encA];rw[if_pos Om,List.getD_cons_zero,List.getD_cons_zero]
  |succ i ih=>
    match t,hi with
    |s::t,hi=>
      simp only[encA,List.getD_cons_succ];exact ih t (by simpa using hi) (by simpa using h2)
theorem j7.ES (h:j7 L C ns):∀t:List Nat,(∀s ∈ t,1≤ns.getD s 0)→∀a ∈ encA L C ns t,a<2^L
  |[],_,a,ha=>by simp[encA] at ha
  |s::t,hs,a,ha=>by
    have ih:=h.ES t fun x hx=>hs x (List.mem_cons_of_mem _ hx)
    have h1:=hs s List.mem_cons_self;simp only[encA,List.mem_cons] at ha;rcases ha with rfl|ha
    · split
      · exact(h.occ Om).1
      · rename_i hl;refine(h.step h1 ?_).1;have:1<(encA L C ns t).length:=Om;exact ih _ (by simp[List.getD_eq_getElem?_getD,this])
    · exact ih a ha
theorem j7.A' (h:j7 L C ns) {t:List Nat} (hs:∀s ∈ t,1≤ns.getD s 0) (i:Nat):(encA L C ns t).getD i 0<2^L:=by
  rcases Nat.lt_or_ge i (encA L C ns t).length with hi|hi
  · exact h.ES t hs _ (by simp[List.getD_eq_getElem?_getD,hi])
  · rw[List.getD_eq_getElem?_getD,List.getElem?_eq_none hi];exact Nat.two_pow_pos _
theorem j7.text (h:j7 L C ns) {t:List Nat} (hs:∀s ∈ t,1≤ns.getD s 0) (h2:2≤t.length):mZ L (buildD L C ns) t (encA L C ns t):=by
  have hg:∀i,i<t.length→1≤ns.getD (t.getD i 0) 0:=fun i hi=>hs _ (by simp[List.getD_eq_getElem?_getD,hi])
  refine⟨ic L C ns t,h2,h.ES t hs,fun i hi=>?_,fun i hi=>?_⟩
  · rcases Nat.lt_or_ge (i+2) t.length with h'|h'
    · rw[tT i t h'];exact(h.step (hg i hi) (h.A' hs _)).2.1
    · rw[vo i t hi h',(h.occ (hg i hi)).2];rfl
  · have hc:=h.A' hs (i+2);obtain⟨_,_,s3,s4⟩:=h.step (hg i Om) hc;rw[tT i t hi,s3];have:=Nat.mod_lt ((encA L C ns t).getD (i+2) 0+2^L) (Nat.two_pow_pos (bl L (ns.getD (t.getD i 0) 0) ((encA L C ns t).getD (i+2) 0+2^L)));omega
theorem j7.ends (h:j7 L C ns) {t:List Nat} (hs:∀s ∈ t,1≤ns.getD s 0) (i:Nat) (hi:i<t.length) (h2:t.length≤i+2):1≤((buildD L C ns).getD ((encA L C ns t).getD i 0) (0,0,0)).2.1:=by
  have hg:1≤ns.getD (t.getD i 0) 0:=hs _ (by simp[List.getD_eq_getElem?_getD,hi]);rw[vo i t hi h2,(h.occ hg).2];show 1≤L-(av (ns.getD (t.getD i 0) 0+0)-1);have h3:=h.le (t.getD i 0);have h4:=dx h3;have h5:=h.lg;rw[Nat.add_zero];omega
theorem j7.bits (h:j7 L C ns) {t:List Nat} (hs:∀s ∈ t,1≤ns.getD s 0) {i:Nat} (hi:i+2<t.length):
    fN (buildD L C ns) ((encA L C ns t).drop i)=bl L (ns.getD (t.getD i 0) 0) ((encA L C ns t).getD (i+2) 0+2^L)+fN (buildD L C ns) ((encA L C ns t).drop (i+1))∧
    fR (buildD L C ns) ((encA L C ns t).drop i)=((encA L C ns t).getD (i+2) 0+2^L)%2^bl L (ns.getD (t.getD i 0) 0) ((encA L C ns t).getD (i+2) 0+2^L)*2^fN (buildD L C ns) ((encA L C ns t).drop (i+1))+fR (buildD L C ns) ((encA L C ns t).drop (i+1)):=by
  have hg:1≤ns.getD (t.getD i 0) 0:=hs _ (by simp[List.getD_eq_getElem?_getD,show i<t.length by omega]);obtain⟨e1,e2⟩:=tI (T:=buildD L C ns) (at_:=encA L C ns t) (i:=i) (by rw[ic];exact hi);obtain⟨_,_,s3,s4⟩:=h.step hg (h.A' hs (i+2));rw[←tT i t hi] at s3 s4;rw[e1,e2,s3];refine⟨rfl,?_⟩;congr 2;omega
end
theorem cp.laid {log:Nat} {cs:List Int} (h:cp log cs):j7 log (dA log cs) (a8 cs):=⟨by rcases h.lg with h|h<;>omega,gD,tQ h,h.ER⟩
def eF (ns:List Nat) (s:Nat):Nat:=(ns.take s).sum
theorem eg {ns:List Nat} {s:Nat}:eF ns (s+1)=eF ns s+ns.getD s 0:=by
  unfold eF;rcases Nat.lt_or_ge s ns.length with h|h
  · rw[List.take_succ_eq_append_getElem h,List.sum_append];simp[List.getD_eq_getElem?_getD,h]
  · rw[List.take_of_length_le h,List.take_of_length_le Om,List.getD_eq_getElem?_getD,List.getElem?_eq_none h];rfl
theorem vp {ns:List Nat} {s t:Nat} (h:s<t):eF ns s+ns.getD s 0≤eF ns t:=by
  induction t with
  |zero=>omega
  |succ t ih=>
    rcases Nat.lt_or_ge s t with h1|h1
    · have:=ih h1;rw[eg];omega
    · have:s=t:=Om;subst this;rw[eg];exact Nat.le_refl _
theorem CO (ns:List Nat):eF ns ns.length=ns.sum:=by unfold eF;rw[List.take_length]
theorem l7 {ns:List Nat} {s:Nat}:eF ns s≤ns.sum:=by
  unfold eF;have:=congrArg List.sum (List.take_append_drop s ns);rw[List.sum_append] at this;omega
theorem KN {ns:List Nat} {s t i j:Nat} (hi:i<ns.getD s 0) (hj:j<ns.getD t 0) (h:eF ns s+i=eF ns t+j):s=t∧i=j:=by
  rcases Nat.lt_trichotomy s t with h1|h1|h1
  · have:=vp (ns:=ns) h1;omega
  · subst h1;exact⟨rfl,Om⟩
  · have:=vp (ns:=ns) h1;omega
def tU (Z:Nat) (C ns S:List Nat) (u:Nat):Prop:=∀w,w<u→S.getD (eF ns (C.getD w 0)+(C.take w).count (C.getD w 0)) 0=Z+w
def n5 (C ns M:List Nat) (u:Nat):Prop:=∀s,s<ns.length→M.getD s 0=eF ns s+(C.take u).count s
theorem jM {C:List Nat} {u:Nat} (hu:u<C.length) (s:Nat):(C.take (u+1)).count s=(C.take u).count s+if C.getD u 0=s then 1 else 0:=by
  rw[List.take_succ_eq_append_getElem hu,List.count_append,List.count_singleton];simp[List.getD_eq_getElem?_getD,hu]
theorem nK {C ns:List Nat} (ri:∀x,C.count x=ns.getD x 0) {u:Nat} (hu:u<C.length):(C.take u).count (C.getD u 0)<ns.getD (C.getD u 0) 0:=by
  have h1:=jM hu (C.getD u 0);rw[if_pos rfl] at h1;have h2:=(List.take_sublist (u+1) C).count_le (C.getD u 0);rw[ri] at h2;omega
theorem tU.step {Z u:Nat} {C ns S:List Nat} (h:tU Z C ns S u) (ri:∀x,C.count x=ns.getD x 0) (hu:u<C.length) (hS:eF ns (C.getD u 0)+(C.take u).count (C.getD u 0)<S.length):tU Z C ns (S.set (eF ns (C.getD u 0)+(C.take u).count (C.getD u 0)) (Z+u)) (u+1):=fun w hw=>by
  rw[aM hS];split
  · rename_i e;have TH:w<C.length:=Om;obtain⟨e1,e2⟩:=KN (nK ri hu) (nK ri TH) e;have o4:occC C (C.getD w 0) ((C.take w).count (C.getD w 0))=occC C (C.getD u 0) ((C.take u).count (C.getD u 0)):=by rw[←e2, ←e1]
    have o3:=(A9 C w TH).symm.trans (o4.trans (A9 C u hu));rw[o3]
  · rename_i e;refine h w (Nat.lt_of_le_of_ne Om fun hh=>e ?_);rw[hh]
theorem n5.step {u:Nat} {C ns M:List Nat} (h:n5 C ns M u) (hu:u<C.length) (ks:C.getD u 0<ns.length) (hM:ns.length≤M.length):n5 C ns (M.set (C.getD u 0) (M.getD (C.getD u 0) 0+1)) (u+1):=fun s hs=>by
  rw[aM Om,jM hu];have h0:=h s hs;by_cases e:C.getD u 0=s
  · rw[if_pos e,if_pos e,e,h0];omega
  · rw[if_neg e,if_neg e,Nat.add_zero];exact h0
theorem tU.get {Z:Nat} {C ns S:List Nat} (h:tU Z C ns S C.length) (ri:∀x,C.count x=ns.getD x 0) {s j:Nat} (hj:j<ns.getD s 0):S.getD (eF ns s+j) 0=Z+occC C s j:=by
  obtain⟨h1,h2,h3⟩:=wW C s j (by rw[ri];exact hj);have:=h _ h1;rwa [h2,h3] at this
def fillT (L:Nat):Nat→List Nat→List Nat→List Nat→List Nat
  |_,[],_,dt=>dt
  |n,w::ws,r,dt=>if w=0 then fillT L (n+1) ws r dt else fillT L (n+1) ws (r.set w (r.getD w 0+2^(w-1))) (cH dt (r.getD w 0) (List.replicate (2^(w-1)) (L+1-w+256*n)))
def TS (r ws:List Nat) (w v:Nat):Prop:=0<w∧r.getD w 0≤v∧v<r.getD w 0+ws.count w*2^(w-1)
structure ky (r ws dt:List Nat):Prop where
  Rm:r.length=16
  TU:∀w ∈ ws,w<16
  fit:∀w,0<w→w ∈ ws→r.getD w 0+ws.count w*2^(w-1)≤dt.length
  dis:∀w w' v,TS r ws w v→TS r ws w' v→w=w'
theorem tV {n v q:Nat} (h:q<n):(List.replicate n v).getD q 0=v:=by simp[List.getD_eq_getElem?_getD,h]
theorem ky.skip {r ws dt:List Nat} (h:ky r (0::ws) dt):ky r ws dt:=by
  have hc:∀w,0<w→(0::ws).count w=ws.count w:=fun w hw=>by rw[List.count_cons_of_ne Om]
  refine⟨h.Rm,fun w hw=>h.TU w (List.mem_cons_of_mem _ hw),fun w h0 h1=>by rw[←hc w h0];exact h.fit w h0 (List.mem_cons_of_mem _ h1),fun w w' v h1 h2=>h.dis w w' v ?_ ?_⟩
  · exact⟨h1.1,h1.2.1,by rw[hc w h1.1];exact h1.2.2⟩
  · exact⟨h2.1,h2.2.1,by rw[hc w' h2.1];exact h2.2.2⟩
theorem tW {r ws:List Nat} {w x v:Nat} (hr:r.length=16) (hw:w<16) (h0:0<w) (h:TS (r.set w (r.getD w 0+2^(w-1))) ws x v):TS r (w::ws) x v∧(x=w→r.getD w 0+2^(w-1)≤v):=by
  obtain⟨h1,h2,h3⟩:=h;rw[iR Om] at h2 h3;by_cases e:w=x
  · subst e;rw[if_pos rfl] at h2 h3;refine⟨⟨h1,Nat.le_trans (Nat.le_add_right _ _) h2,?_⟩,fun _=>h2⟩;rw[List.count_cons_self,Nat.add_mul,Nat.one_mul];omega
  · rw[if_neg e] at h2 h3;exact⟨⟨h1,h2,by rw[List.count_cons_of_ne Om];exact h3⟩,fun h=>(e h.symm).elim⟩
theorem ky.Ib {r ws dt:List Nat} {w:Nat} (h:ky r (w::ws) dt) (h0:0<w):r.getD w 0+2^(w-1)≤dt.length:=by
  have:=h.fit w h0 List.mem_cons_self;rw[List.count_cons_self,Nat.add_mul,Nat.one_mul] at this;omega
theorem ky.step {r ws dt dt':List Nat} {w:Nat} (h:ky r (w::ws) dt) (h0:0<w) (hd:dt'.length=dt.length):ky (r.set w (r.getD w 0+2^(w-1))) ws dt':=by
  have hw:=h.TU w List.mem_cons_self;refine⟨by simp[h.Rm],fun x hx=>h.TU x (List.mem_cons_of_mem _ hx),fun x Rn hx=>?_,fun x y v h1 h2=>h.dis x y v (tW h.Rm hw h0 h1).1 (tW h.Rm hw h0 h2).1⟩;have:=h.fit x Rn (List.mem_cons_of_mem _ hx);rw[iR (by rw[h.Rm];exact hw),hd];by_cases e:w=x
  · subst e;rw[List.count_cons_self,Nat.add_mul,Nat.one_mul] at this;rw[if_pos rfl];omega
  · rw[if_neg e];rw[List.count_cons_of_ne Om] at this;exact this
theorem o8 {L:Nat}:∀(ws r dt:List Nat) (n:Nat),ky r ws dt→(fillT L n ws r dt).length=dt.length
  |[],r,dt,n,_=>rfl
  |w::ws,r,dt,n,h=>by
    unfold fillT;by_cases e:w=0
    · subst e;rw[if_pos rfl];exact o8 ws r dt _ h.skip
    · rw[if_neg e];have hl:(cH dt (r.getD w 0) (List.replicate (2^(w-1)) (L+1-w+256*n))).length=dt.length:=aq (by simp;exact h.Ib Om);rw[o8 ws _ _ _ (h.step Om hl),hl]
theorem vq {L:Nat}:∀(ws r dt:List Nat) (n v:Nat),ky r ws dt→(∀w,¬TS r ws w v)→(fillT L n ws r dt).getD v 0=dt.getD v 0
  |[],r,dt,n,v,_,_=>rfl
  |w::ws,r,dt,n,v,h,hv=>by
    unfold fillT;by_cases e:w=0
    · subst e;rw[if_pos rfl];refine vq ws r dt _ v h.skip fun x hx=>hv x ⟨hx.1,hx.2.1,?_⟩
      have h1:=hx.1;rw[List.count_cons_of_ne Om];exact hx.2.2
    · rw[if_neg e];have Ia:=h.Ib Om;have hl:(cH dt (r.getD w 0) (List.replicate (2^(w-1)) (L+1-w+256*n))).length=dt.length:=aq (by simp;exact Ia);rw[vq ws _ _ _ v (h.step Om hl) fun x hx=>hv x (tW h.Rm (h.TU w List.mem_cons_self) Om hx).1];rw[qQ (by simp;exact Ia),if_neg];intro ⟨h1,h2⟩;rw[List.length_replicate] at h2;refine hv w ⟨Om,h1,Nat.lt_of_lt_of_le h2 ?_⟩;rw[List.count_cons_self,Nat.add_mul,Nat.one_mul];omega
theorem xU {L:Nat}:∀(ws r dt:List Nat) (n s v:Nat),ky r ws dt→s<ws.length→0<ws.getD s 0→r.getD (ws.getD s 0) 0+(ws.take s).count (ws.getD s 0)*2^(ws.getD s 0-1)≤v→
      v<r.getD (ws.getD s 0) 0+((ws.take s).count (ws.getD s 0)+1)*2^(ws.getD s 0-1)→(fillT L n ws r dt).getD v 0=L+1-ws.getD s 0+256*(n+s)
  |[],r,dt,n,s,v,_,hs,_,_,_=>by simp at hs
  |w::ws,r,dt,n,0,v,h,hs,h0,h1,h2=>by
    simp only[List.getD_cons_zero,List.take_zero,List.count_nil,Nat.zero_mul,Nat.add_zero,Nat.zero_add,Nat.one_mul] at h0 h1 h2 ⊢;unfold fillT;rw[if_neg Om];have Ia:=h.Ib h0;have hl:(cH dt (r.getD w 0) (List.replicate (2^(w-1)) (L+1-w+256*n))).length=dt.length:=aq (by simp;exact Ia);rw[vq ws _ _ _ v (h.step h0 hl) fun x hx=>?_]
    · rw[qQ (by simp;exact Ia),if_pos ⟨h1,by simp;exact h2⟩,tV Om]
    · obtain⟨hx1,Eh⟩:=tW h.Rm (h.TU w List.mem_cons_self) h0 hx;have hw:TS r (w::ws) w v:=⟨h0,h1,by rw[List.count_cons_self,Nat.add_mul,Nat.one_mul];omega⟩;have:=h.dis x w v hx1 hw;have:=Eh this;omega
  |w::ws,r,dt,n,s+1,v,h,hs,h0,h1,h2=>by
    simp only[List.getD_cons_succ,List.take_succ_cons] at h0 h1 h2 ⊢;have hs':s<ws.length:=by simpa using hs
    unfold fillT;rw[show n+(s+1)=n+1+s by omega];by_cases e:w=0
    · subst e;rw[if_pos rfl];rw[List.count_cons_of_ne Om] at h1 h2;exact xU ws r dt (n+1) s v h.skip hs' h0 h1 h2
    · rw[if_neg e];have Ia:=h.Ib Om;have hl:(cH dt (r.getD w 0) (List.replicate (2^(w-1)) (L+1-w+256*n))).length=dt.length:=aq (by simp;exact Ia);refine xU ws _ _ (n+1) s v (h.step Om hl) hs' h0 ?_ ?_
      · rw[iR (by rw[h.Rm];exact h.TU w List.mem_cons_self)];by_cases e2:w=ws.getD s 0
        · rw[if_pos e2];rw[e2,List.count_cons_self,Nat.add_mul,Nat.one_mul] at h1;rw[e2];omega
        · rw[if_neg e2];rw[List.count_cons_of_ne Om] at h1;exact h1
      · rw[iR (by rw[h.Rm];exact h.TU w List.mem_cons_self)];by_cases e2:w=ws.getD s 0
        · rw[if_pos e2];rw[e2,List.count_cons_self,Nat.add_mul,Nat.add_mul,Nat.one_mul] at h2;rw[e2,Nat.add_mul,Nat.one_mul];omega
        · rw[if_neg e2];rw[List.count_cons_of_ne Om] at h2;exact h2
def startW (ws:List Nat):Nat→Nat
  |0=>0
  |w+1=>startW ws w+(if w=0 then 0 else ws.count w*2^(w-1))
theorem fM (ws:List Nat) {a b:Nat} (h:a≤b):startW ws a≤startW ws b:=by
  induction b with
  |zero=>
    have:a=0:=Om;subst this;exact Nat.le_refl _
  |succ b ih=>
    rcases Nat.lt_or_ge a (b+1) with h'|h'
    · exact Nat.le_trans (ih Om) (Nat.le_add_right _ _)
    · have:a=b+1:=Om;subst this;exact Nat.le_refl _
theorem ie {ws:List Nat} {w:Nat} (h:0<w):startW ws (w+1)=startW ws w+ws.count w*2^(w-1):=by
  simp only[startW];rw[if_neg Om]
theorem xV (ws:List Nat) {w:Nat} (h0:0<w):∀m,w≤m→2^(w-1)∣startW ws m-startW ws w
  |0,h=>by omega
  |m+1,h=>by
    rcases Nat.lt_or_ge w (m+1) with h'|h'
    · have ih:=xV ws h0 m Om;rw[ie Om];have hm:=fM ws (show w≤m by omega);rw[show startW ws m+ws.count m*2^(m-1)-startW ws w=(startW ws m-startW ws w)+ws.count m*2^(m-1) by omega];refine Nat.dvd_add ih (Nat.dvd_mul_left_of_dvd (Nat.pow_dvd_pow 2 Om) _)
    · have:w=m+1:=Om;subst this;simp
def CP (L:Nat) (ws:List Nat) (s:Nat):Nat × Nat:=(L+1-ws.getD s 0,startW ws (ws.getD s 0)/2^(ws.getD s 0-1)+(ws.take s).count (ws.getD s 0))
theorem ze {ws:List Nat} {s:Nat} (hs:s<ws.length):(ws.take s).count (ws.getD s 0)+1≤ws.count (ws.getD s 0):=by
  have hg:ws.getD s 0=ws[s]:=by simp[hs]
  have h1:(ws.take (s+1)).count ws[s]=(ws.take s).count ws[s]+1:=by rw[List.take_succ_eq_append_getElem hs,List.count_append,List.count_singleton_self]
  rw[hg, ←h1];exact(List.take_sublist _ _).count_le _
theorem xW {L:Nat} {ws r dt:List Nat} (hL:1≤L) (CQ:L≤11) (hlen:ws.length≤256) (hw:∀w ∈ ws,w≤L) (hr:r.length=16) (jl:∀w,0<w→w≤L→r.getD w 0=startW ws w) (su:startW ws (L+1)=2^L) (hdt:dt.length=2048):
    Cf (fillT L 0 ws r dt) L (CP L ws) (fun s=>s<ws.length∧0<ws.getD s 0)∧(fillT L 0 ws r dt).length=2048:=by
  have pos:∀m:Nat,0<2^m:=fun m=>Nat.pow_pos Om
  have hLL:(2:Nat)^L≤2^11:=Nat.pow_le_pow_right Om CQ;have VX:∀w,L<w→ws.count w=0:=fun w h=>List.count_eq_zero.2 fun hm=>by have:=hw w hm;omega
  have CR:∀w v,TS r ws w v→w≤L∧startW ws w≤v∧v<startW ws (w+1):=fun w v h=>by
    rcases Nat.lt_or_ge L w with h'|h'
    · have:=h.2.2;rw[VX w h'] at this;have:=h.2.1;omega
    · have h1:=h.2.1;have h2:=h.2.2;rw[jl w h.1 h'] at h1 h2;exact⟨h',h1,by rw[ie h.1];exact h2⟩
  have ok:ky r ws dt:=by
    refine⟨hr,fun w h=>by have:=hw w h;omega,fun w h0 Ei=>?_,fun w w' v h1 h2=>?_⟩
    · have h':=hw w Ei;rw[jl w h0 h', ←ie h0];have:=fM ws (show w+1≤L+1 by omega);omega
    · obtain⟨_,a1,a2⟩:=CR w v h1;obtain⟨_,b1,b2⟩:=CR w' v h2;rcases Nat.lt_trichotomy w w' with h|h|h
      · have:=fM ws (show w+1≤w' by omega);omega
      · exact h
      · have:=fM ws (show w'+1≤w by omega);omega
  refine⟨⟨hL,CQ,fun s hs=>?_,fun s hs v hv he=>?_⟩,by rw[o8 ws r dt 0 ok];exact hdt⟩;all_goals
    have hm:ws.getD s 0≤L:=hw _ (by simp[hs.1]);have hdv:=xV ws hs.2 (L+1) Om;have hle:=fM ws (show ws.getD s 0≤L+1 by omega);have Ro:=fM ws (show ws.getD s 0+1≤L+1 by omega);rw[ie hs.2] at Ro;have hc:=ze hs.1;rw[su] at hdv hle Ro;have h2:2^(ws.getD s 0-1)∣startW ws (ws.getD s 0):=by
      have:=Nat.dvd_sub (Nat.pow_dvd_pow 2 (show ws.getD s 0-1≤L by omega)) hdv;rwa [show 2^L-(2^L-startW ws (ws.getD s 0))=startW ws (ws.getD s 0) by omega] at this
    obtain⟨q,hq⟩:=h2;have hqd:startW ws (ws.getD s 0)/2^(ws.getD s 0-1)=q:=by rw[hq,Nat.mul_div_cancel_left _ (pos _)]
    have hqm:startW ws (ws.getD s 0)=q*2^(ws.getD s 0-1):=by rw[hq,Nat.mul_comm]
  · refine⟨Om,by show 1≤L+1-_;omega,by show L+1-_≤L;omega,?_⟩;show startW ws (ws.getD s 0)/2^(ws.getD s 0-1)+_<2^(L+1-ws.getD s 0);rw[hqd];have e:(2:Nat)^L=2^(L+1-ws.getD s 0)*2^(ws.getD s 0-1):=by rw[←Nat.pow_add];congr 1;omega
    rw[hqm,e, ←Nat.add_mul] at Ro;have:=Nat.le_of_mul_le_mul_right Ro (pos _);omega
  · have e1:L-(CP L ws s).1=ws.getD s 0-1:=by show L-(L+1-ws.getD s 0)=_;omega
    rw[e1] at he;have e2:(CP L ws s).2=q+(ws.take s).count (ws.getD s 0):=by show _/_+_=_;rw[hqd]
    rw[e2] at he;have Ef:(q+(ws.take s).count (ws.getD s 0))*2^(ws.getD s 0-1)≤v:=by rw[←he];exact Nat.div_mul_le_self _ _
    have y':v<(q+(ws.take s).count (ws.getD s 0)+1)*2^(ws.getD s 0-1):=by
      rw[←he];exact Nat.lt_mul_of_div_lt (Nat.lt_succ_self _) (pos _)
    rw[Nat.add_assoc,Nat.add_mul, ←hqm] at y';rw[Nat.add_mul, ←hqm] at Ef;have:=xU (L:=L) ws r dt 0 s v ok hs.1 hs.2 (by rw[jl _ hs.2 hm];exact Ef) (by rw[jl _ hs.2 hm];exact y');rw[this];show _=L+1-_+_;omega
def l8 (ls:List Nat) (L last:Nat):List Nat:=(ls.take (last+1)).map (uV L)
theorem HW.GR {ls:List Nat} {L last:Nat} (h:HW ls L last) (i:Nat):ls.getD i 0≤L:=h.le.at_ i
theorem HW.L1 {ls:List Nat} {L last:Nat} (h:HW ls L last):1≤L:=by
  have:=h.GR last;have:=h.nz;omega
theorem Rp {L a b:Nat} (ha:a≤L) (hb:b≤L) (h:uV L a=uV L b):a=b:=by
  unfold uV at h;split at h<;>split at h<;>omega
theorem vr {L n:Nat} (hn:n≤L):∀xs:List Nat,fm xs L→(xs.map (uV L)).count (uV L n)=xs.count n
  |[],_=>rfl
  |x::xs,h=>by
    have ih:=vr hn xs (fun y hy=>h y (List.mem_cons_of_mem _ hy));have hx:=h x List.mem_cons_self;rw[List.map_cons,List.count_cons,List.count_cons,ih];by_cases e:x=n
    · subst e;simp
    · have e2:uV L x≠uV L n:=fun h'=>e (Rp hx hn h')
      simp[e,e2]
theorem fm.KO {xs:List Nat} {b:Nat} (h:fm xs b) (i:Nat):fm (xs.take i) b:=fun x hx=>h x (List.mem_of_mem_take hx)
theorem vQ {ls:List Nat} {L last:Nat} (h:HW ls L last):(l8 ls L last).length=last+1:=by
  have:=h.lt;simp[l8];omega
theorem CU {ls:List Nat} {L last s:Nat} (h:HW ls L last) (hs:s≤last):(l8 ls L last).getD s 0=uV L (ls.getD s 0):=by
  have:=h.lt;simp[l8,List.getD_eq_getElem?_getD,show s<last+1 by omega,show s<ls.length by omega]
theorem Ba {ls:List Nat} {L last:Nat}:∀w ∈ l8 ls L last,w≤L:=fun w hw=>by
  simp only[l8,List.mem_map] at hw;obtain⟨x,_,rfl⟩:=hw;unfold uV;split<;>omega
theorem zY {ls:List Nat} {L last:Nat} (h:HW ls L last):∀x ∈ ls.drop (last+1),x=0:=fun x hx=>by
  obtain⟨i,hi,rfl⟩:=List.getElem_of_mem hx;have:=h.z (last+1+i) Om;rw[List.getElem_drop];rw[List.length_drop] at hi;simpa [List.getD_eq_getElem?_getD,show last+1+i<ls.length by omega] using this
theorem CV {ls:List Nat} {L last n:Nat} (h:HW ls L last) (hn:1≤n):(ls.take (last+1)).count n=ls.count n:=by
  have e:ls.count n=(ls.take (last+1)).count n+(ls.drop (last+1)).count n:=by rw[←List.count_append,List.take_append_drop]
  have:(ls.drop (last+1)).count n=0:=List.count_eq_zero.2 fun hm=>by have:=zY h n hm;omega
  omega
theorem xX {ls:List Nat} {L last n:Nat} (h:HW ls L last) (hn:1≤n) (hnL:n≤L):(l8 ls L last).count (L+1-n)=ls.count n:=by
  have e:L+1-n=uV L n:=by unfold uV;rw[if_neg Om]
  rw[e,l8,vr hnL _ (h.le.KO _),CV h hn]
theorem GU {ls:List Nat} {L:Nat} (h:fm ls L):∀d,d+L≤11→nx ls d=0
  |0,_=>rfl
  |d+1,hd=>by
    have h0:ls.count (11-d)=0:=List.count_eq_zero.2 fun hm=>by have:=h _ hm;omega
    simp only[nx,GU h d Om,h0]
theorem wX {ls:List Nat} {L:Nat} (h:fm ls L) (hL:L≤11):zQ ls L=0:=GU h _ Om
theorem zZ {ls:List Nat} {L last:Nat} (h:HW ls L last) (hL:L≤11) (he:nh ls):∀w,1≤w→w≤L+1→startW (l8 ls L last) w=zQ ls (L+1-w)*2^(w-1)
  |0,h0,_=>by omega
  |1,_,_=>by rw[Nat.add_sub_cancel,wX h.le hL];simp[startW]
  |w+2,_,hw=>by
    have ih:=zZ h hL he (w+1) Om Om;rw[ie Om,ih];have hc:=xX h (n:=L-w) Om Om;rw[show L+1-(L-w)=w+1 by omega] at hc;have hp:=xR ls (m:=L-w) Om Om;have hv:=he (L-w) Om Om;rw[hc,show L+1-(w+1)=L-w by omega,show L+1-(w+2)=L-w-1 by omega,hp,Nat.add_sub_cancel,show w+2-1=w+1 by omega,Nat.pow_succ, ←Nat.add_mul];generalize zQ ls (L-w)+ls.count (L-w)=q at hv;obtain⟨r,rfl⟩:∃r,q=r*2:=⟨q/2,Om⟩;rw[Nat.mul_div_cancel _ Om,Nat.mul_assoc,Nat.mul_comm 2]
theorem Rq {ls:List Nat} {L last s:Nat} (h:HW ls L last) (hL:L≤11) (he:nh ls) (hs:1≤ls.getD s 0):CP L (l8 ls L last) s=p5 ls s∧s≤last:=by
  have kL:s≤last:=Classical.byContradiction fun hn=>by have:=h.z s Om;omega
  have hn:=h.GR s;refine⟨?_,kL⟩;have hg:=CU h kL;have hw:uV L (ls.getD s 0)=L+1-ls.getD s 0:=by unfold uV;rw[if_neg Om]
  unfold CP p5 l4;rw[hg];refine Prod.ext (by rw[hw];omega) ?_;show startW _ _/_+_=_;rw[hw,zZ h hL he _ Om Om,Nat.mul_div_cancel _ (Nat.pow_pos Om),show L+1-(L+1-ls.getD s 0)=ls.getD s 0 by omega];congr 1;have e:(l8 ls L last).take s=(ls.take s).map (uV L):=by
    rw[l8, ←List.map_take,List.take_take,Nat.min_eq_left Om]
  rw[e, ←hw,vr hn _ (h.le.KO _)]
def cellsW:List Nat→Nat
  |[]=>0
  |w::ws=>(if w=0 then 0 else 2^(w-1))+cellsW ws
theorem rF:∀a b:List Nat,cellsW (a++b)=cellsW a+cellsW b
  |[],b=>by simp[cellsW]
  |x::a,b=>by simp only[List.cons_append,cellsW,rF a b];omega
theorem xY:∀m,startW [] m=0
  |0=>rfl
  |m+1=>by simp only[startW,xY m];split<;>simp
theorem vR (x:Nat) (ws:List Nat):∀m,startW (x::ws) m=startW ws m+(if x=0∨m≤x then 0 else 2^(x-1))
  |0=>by simp[startW]
  |m+1=>by
    simp only[startW,vR x ws m];by_cases hm:m=0
    · subst hm;simp only[if_true];rw[if_pos Om,if_pos Om]
    · rw[if_neg hm,if_neg hm,List.count_cons];by_cases e:x=m
      · subst e;rw[if_pos (show x=0∨x≤x by omega),if_neg (show¬(x=0∨x+1≤x) by omega),if_pos (beq_self_eq_true x),Nat.add_mul,Nat.one_mul];omega
      · have:(x==m)=false:=by simp;omega
        simp only[this,Bool.false_eq_true,if_false,Nat.add_zero];by_cases h1:x=0∨m≤x
        · rw[if_pos h1,if_pos Om];omega
        · rw[if_neg h1,if_neg Om];omega
theorem mD {L:Nat}:∀ws:List Nat,(∀w ∈ ws,w≤L)→startW ws (L+1)=cellsW ws
  |[],_=>xY _
  |x::ws,h=>by
    have hx:=h x List.mem_cons_self;rw[vR,mD ws (fun w hw=>h w (List.mem_cons_of_mem _ hw)),cellsW];by_cases e:x=0
    · rw[if_pos Om,if_pos e];omega
    · rw[if_neg Om,if_neg e];omega
theorem vS {L:Nat} (hL:L≤11):∀xs:List Nat,fm xs L→cellsW (xs.map (uV L))*2^(11-L)=iw xs
  |[],_=>by simp[cellsW,iw]
  |x::xs,h=>by
    have ih:=vS hL xs (fun y hy=>h y (List.mem_cons_of_mem _ hy));have hx:=h x List.mem_cons_self;rw[List.map_cons,cellsW,iw,Nat.add_mul,ih];congr 1;unfold uV;by_cases e:x=0
    · rw[if_pos e,if_pos rfl,if_pos e,Nat.zero_mul]
    · rw[if_neg e,if_neg Om,if_neg e, ←Nat.pow_add];congr 1;omega
theorem ET {ls:List Nat} {L last:Nat} (h:HW ls L last):iw (ls.take (last+1))=iw ls:=by
  have e:iw ls=iw (ls.take (last+1))+iw (ls.drop (last+1)):=by rw[←tK,List.take_append_drop]
  have hz:∀xs:List Nat,(∀x ∈ xs,x=0)→iw xs=0:=fun xs=>by
    induction xs with
    |nil=>intro _;rfl
    |cons x xs ih=>intro hx;simp only[iw,hx x List.mem_cons_self,ih fun y hy=>hx y (List.mem_cons_of_mem _ hy)];rfl
  rw[hz _ (zY h)] at e;omega
theorem qe {ls:List Nat} {L last:Nat} (h:HW ls L last) (hw:jn ls) (hL:L≤11):cellsW (l8 ls L last)=2^L:=by
  have h1:=vS hL (ls.take (last+1)) (h.le.KO _);rw[ET h,hw.2.2.1,show(2048:Nat)=2^L*2^(11-L) by rw[←Nat.pow_add,show L+(11-L)=11 by omega]] at h1;exact Nat.eq_of_mul_eq_mul_right (Nat.pow_pos Om) h1
theorem z6 {ls:List Nat} {L last:Nat} (h:HW ls L last):l8 ls L last=cU ls L last++[uV L (ls.getD last 0)]:=by
  rw[l8,fV h.lt,List.map_append];rfl
theorem HW.L11 {ls:List Nat} {L last:Nat} (h:HW ls L last) (hw:jn ls):L≤11:=by
  obtain⟨p,hp,rfl⟩:=h.at_;exact hw.2.1.at_ p
theorem qf {ls:List Nat} {L last:Nat} (h:HW ls L last) (hw:jn ls):cellsW (cU ls L last)+2^(L-ls.getD last 0)=2^L∧1≤ls.getD last 0∧ls.getD last 0≤L:=by
  have h1:=qe h hw (h.L11 hw);have h2:=h.nz;have h3:=h.GR last;rw[z6 h,rF] at h1;simp only[cellsW,uV,if_neg h2] at h1;rw[if_neg Om,show L+1-ls.getD last 0-1=L-ls.getD last 0 by omega] at h1;exact⟨Om,Om,h3⟩
theorem CW {ls:List Nat} {L last:Nat} (h:HW ls L last) (hw:jn ls):av (cellsW (cU ls L last))=L∧2^(L-1)≤cellsW (cU ls L last):=by
  obtain⟨h1,h2,h3⟩:=qf h hw;have hp:(2:Nat)^(L-ls.getD last 0)≤2^(L-1):=Nat.pow_le_pow_right Om Om;have hq:(2:Nat)^L=2^(L-1)*2:=by rw[←Nat.pow_succ];congr 1;omega
  have mX:=Nat.pow_pos (n:=L-ls.getD last 0) (show 0<2 by omega);have a:=dx (n:=cellsW (cU ls L last)) (k:=L) Om;have b:=jd (cellsW (cU ls L last));have c:L-1<av (cellsW (cU ls L last)):=(Nat.pow_lt_pow_iff_right Om).1 (Nat.lt_of_le_of_lt (show 2^(L-1)≤_ by omega) b);exact⟨Om,Om⟩
theorem Bb {ls:List Nat} {L last:Nat} (h:HW ls L last) (hL:L≤11) (he:nh ls):2≤(l8 ls L last).count 1∧(l8 ls L last).count 1%2=0:=by
  have hc:=xX h (n:=L) h.L1 (Nat.le_refl _);rw[show L+1-L=1 by omega] at hc;have h1:=he L h.L1 hL;rw[wX h.le hL,Nat.zero_add] at h1;obtain⟨p,hp,EU⟩:=h.at_;have h2:0<ls.count L:=List.count_pos_iff.2 (by rw[←EU];exact ix hp);omega
structure tX (H P:List Nat):Prop where
  len:H.length=64
  sum:∀v,v<16→H.getD v 0+H.getD (16+v) 0+H.getD (32+v) 0+H.getD (48+v) 0=P.count v
theorem tX.zero:tX (List.replicate 64 0) []:=⟨List.length_replicate,fun v hv=>by rw[qN,qN,qN,qN];rfl⟩
theorem tX.step {H P:List Nat} (h:tX H P) {a x:Nat} (hx:x<16) (ha:a=x∨a=16+x∨a=32+x∨a=48+x):tX (H.set a (H.getD a 0+1)) (P++[x]):=by
  have hl:=h.len;have g:∀j,(H.set a (H.getD a 0+1)).getD j 0=H.getD j 0+if a=j then 1 else 0:=fun j=>by
    rw[iR Om];by_cases e:a=j
    · subst e;simp
    · simp[e]
  refine⟨by rw[List.length_set];exact hl,fun v hv=>?_⟩;rw[g,g,g,g,List.count_append, ←h.sum v hv];have b:[x].count v=if x=v then 1 else 0:=by
    by_cases e:x=v
    · subst e;simp
    · simp[e]
  rw[b];by_cases e:x=v
  · subst e;rw[if_pos (rfl:x=x)];rcases ha with rfl|rfl|rfl|rfl
    · rw[if_pos rfl,if_neg Om,if_neg Om,if_neg Om];omega
    · rw[if_neg Om,if_pos rfl,if_neg Om,if_neg Om];omega
    · rw[if_neg Om,if_neg Om,if_pos rfl,if_neg Om];omega
    · rw[if_neg Om,if_neg Om,if_neg Om,if_pos rfl];omega
  · rw[if_neg e,if_neg Om,if_neg Om,if_neg Om,if_neg Om];omega
theorem tX.le {H P:List Nat} (h:tX H P) {v:Nat} (hv:v<16):H.getD v 0≤P.length∧H.getD (16+v) 0≤P.length∧H.getD (32+v) 0≤P.length∧H.getD (48+v) 0≤P.length:=by
  have h1:=h.sum v hv;have h2:=List.count_le_length (a:=v) (l:=P);omega
def tY (R P:List Nat) (n:Nat):Prop:=∀v,v<n→R.getD v 0=P.count v
theorem tY.step {R P:List Nat} {n x:Nat} (h:tY R P n) (hn:n<R.length) (hx:x=P.count n):tY (R.set n x) P (n+1):=fun v hv=>by
  rw[iR hn];by_cases e:n=v
  · rw[if_pos e,hx,e]
  · rw[if_neg e];exact h v Om
theorem tY.last {R P:List Nat} {n x:Nat} (h:tY R P n) (hn:n≤R.length) (hx:x<n):tY (R.set x (R.getD x 0+1)) (P++[x]) n:=fun v hv=>by
  rw[iR Om,List.count_append];by_cases e:x=v
  · subst e;rw[if_pos rfl,h x hx];simp
  · rw[if_neg e,h v hv];simp[e]
theorem z7 {ws:List Nat} {i L:Nat} (h:∀w ∈ ws,w≤L) (hs:cellsW ws≤2048) (hi:1≤i):startW ws i+ws.count i*2^(i-1)=startW ws (i+1)∧startW ws (i+1)≤2048:=by
  refine⟨(ie hi).symm,?_⟩;have h1:=mD (L:=max L i) ws fun w hw=>Nat.le_trans (h w hw) (Nat.le_max_left _ _)
  have h2:=fM ws (show i+1≤max L i+1 by have:=Nat.le_max_right L i;omega);omega
structure sv (R ws:List Nat) (n:Nat):Prop where
  low:∀v,1≤v→v<n→R.getD v 0=startW ws v
  high:∀v,n≤v→v<16→R.getD v 0=ws.count v
theorem sv.init {R ws:List Nat} (h:tY R ws 16):sv R ws 1:=⟨fun v h1 h2=>Om,fun v _ h2=>h v h2⟩
theorem sv.step {R ws:List Nat} {n x:Nat} (h:sv R ws n) (hl:R.length=16) (hn:n<16) (hx:x=startW ws n):sv (R.set n x) ws (n+1):=by
  refine⟨fun v h1 h2=>?_,fun v h1 h2=>?_⟩
  · rw[iR Om];by_cases e:n=v
    · rw[if_pos e,hx,e]
    · rw[if_neg e];exact h.low v h1 Om
  · rw[iR Om,if_neg Om];exact h.high v Om h2
theorem KP (k:Nat):av (2^k)=k+1:=lu (by rw[Nat.add_sub_cancel];exact Nat.le_refl _) (Nat.pow_lt_pow_right Om Om) Om
theorem Ic {ws:List Nat} {L w:Nat} (hws:∀x ∈ ws,x≤L) (su:cellsW ws=2^L) (hw:w≤L):startW ws (w+1)≤2^L:=by
  rw[←su, ←mD ws hws];exact fM ws Om
theorem Rr {L:Nat} {ws r dt:List Nat} (CQ:L≤11) (hw:∀w ∈ ws,w≤L) (hr:r.length=16) (jl:∀w,0<w→w≤L→r.getD w 0=startW ws w) (su:cellsW ws=2^L) (hdt:dt.length=2048):ky r ws dt:=by
  have hLL:(2:Nat)^L≤2^11:=Nat.pow_le_pow_right Om CQ;have VX:∀w,L<w→ws.count w=0:=fun w h=>List.count_eq_zero.2 fun hm=>by have:=hw w hm;omega
  have CR:∀w v,TS r ws w v→w≤L∧startW ws w≤v∧v<startW ws (w+1):=fun w v h=>by
    rcases Nat.lt_or_ge L w with h'|h'
    · have:=h.2.2;rw[VX w h'] at this;have:=h.2.1;omega
    · have h1:=h.2.1;have h2:=h.2.2;rw[jl w h.1 h'] at h1 h2;exact⟨h',h1,by rw[ie h.1];exact h2⟩
  refine⟨hr,fun w h=>by have:=hw w h;omega,fun w h0 Ei=>?_,fun w w' v h1 h2=>?_⟩
  · have h':=hw w Ei;rw[jl w h0 h', ←ie h0];have:=Ic hw su h';omega
  · obtain⟨_,a1,a2⟩:=CR w v h1;obtain⟨_,b1,b2⟩:=CR w' v h2;rcases Nat.lt_trichotomy w w' with h|h|h
    · have:=fM ws (show w+1≤w' by omega);omega
    · exact h
    · have:=fM ws (show w'+1≤w by omega);omega
structure wE (L:Nat) (ws:List Nat) (n:Nat) (R D F:List Nat):Prop where
  eq:fillT L n (ws.drop n) R D=F
  ok:ky R (ws.drop n) D
  len:D.length=2048
theorem wE.skip {L n:Nat} {ws R D F:List Nat} (h:wE L ws n R D F) (hn:n<ws.length) (h0:ws.getD n 0=0):wE L ws (n+1) R D F:=by
  have e:=qO hn;rw[h0] at e;have h1:=h.eq;have h2:=h.ok;rw[e] at h1 h2;unfold fillT at h1;rw[if_pos rfl] at h1;exact⟨h1,h2.skip,h.len⟩
theorem wE.room {L n:Nat} {ws R D F:List Nat} (h:wE L ws n R D F) (hn:n<ws.length) (h0:ws.getD n 0≠0):R.getD (ws.getD n 0) 0+2^(ws.getD n 0-1)≤2048∧ws.getD n 0<16:=by
  have h2:=h.ok;rw[qO hn] at h2;have:=h2.Ib Om;rw[h.len] at this;exact⟨this,h2.TU _ List.mem_cons_self⟩
theorem wE.step {L n:Nat} {ws R D F:List Nat} (h:wE L ws n R D F) (hn:n<ws.length) (h0:ws.getD n 0≠0):wE L ws (n+1) (R.set (ws.getD n 0) (R.getD (ws.getD n 0) 0+2^(ws.getD n 0-1))) (cH D (R.getD (ws.getD n 0) 0) (List.replicate (2^(ws.getD n 0-1)) (L+1-ws.getD n 0+256*n))) F:=by
  have h1:=h.eq;have h2:=h.ok;rw[qO hn] at h1 h2;unfold fillT at h1;rw[if_neg h0] at h1;have hl:(cH D (R.getD (ws.getD n 0) 0) (List.replicate (2^(ws.getD n 0-1)) (L+1-ws.getD n 0+256*n))).length=D.length:=aq (by rw[List.length_replicate];exact h2.Ib Om);exact⟨h1,h2.step Om hl,by rw[hl];exact h.len⟩
theorem wE.done {L n:Nat} {ws R D F:List Nat} (h:wE L ws n R D F) (hn:ws.length≤n):D=F:=by
  have h1:=h.eq;rwa [List.drop_of_length_le hn] at h1
theorem z8 (D:List Nat) (a e:Nat):cH D a (List.replicate 0 e)=D:=by simp[cH]
theorem qg {D:List Nat} {a i e:Nat} (h:a+i<D.length):(cH D a (List.replicate i e)).set (a+i) e=cH D a (List.replicate (i+1) e):=by
  have l1:(cH D a (List.replicate i e)).length=D.length:=aq (by rw[List.length_replicate];omega);have l2:(cH D a (List.replicate (i+1) e)).length=D.length:=aq (by rw[List.length_replicate];omega);refine zR (d:=0) (u:=D.length) (fun j hj=>?_) (by rw[List.length_set,l1,l2]) (by rw[List.length_set,l1];exact Nat.le_refl _);rw[iR Om,qQ (by rw[List.length_replicate];omega),qQ (by rw[List.length_replicate];omega),List.length_replicate,List.length_replicate];by_cases e1:a+i=j
  · rw[if_pos e1,if_pos Om,tV Om]
  · rw[if_neg e1];by_cases e2:a≤j∧j<a+i
    · rw[if_pos e2,if_pos Om,tV Om,tV Om]
    · rw[if_neg e2,if_neg Om]
theorem EV {n:Nat} (h:n<256):n&&&255=n:=by
  have:=Nat.and_two_pow_sub_one_eq_mod n 8;rw[Nat.mod_eq_of_lt h] at this;exact this
theorem nk (n:Nat):n&&&15=n%16:=Nat.and_two_pow_sub_one_eq_mod n 4
theorem Rs (n:Nat):n&&&3=n%4:=Nat.and_two_pow_sub_one_eq_mod n 2
theorem ji (n:Nat):n&&&7=n%8:=Nat.and_two_pow_sub_one_eq_mod n 3
theorem xZ (n:Nat):n&&&31=n%32:=Nat.and_two_pow_sub_one_eq_mod n 5
theorem adN (n:Nat):n&&&65535=n%65536:=Nat.and_two_pow_sub_one_eq_mod n 16
theorem zT.at_ {xs bs:List Nat} {len p p':Nat} (h:zT xs len p bs) (e:p'=p):zT xs len p' bs:=e▸h
theorem CX {t n r:Nat} (h:t=2^(n-1)) (h1:r<t) (h2:1≤r):2≤n∧t/2^1=2^(n-1-1):=by
  have hn:2≤n:=Classical.byContradiction fun hn=>by
    have e:n-1=0:=Om;rw[e,Nat.pow_zero] at h;omega
  refine⟨hn,?_⟩;obtain⟨m,rfl⟩:∃m,n=m+2:=⟨n-2,Om⟩;rw[h,show m+2-1=m+1 by omega,show m+1-1=m by omega,Nat.pow_succ];omega
theorem KQ {n:Nat} (h:1≤n):2^n=2*2^(n-1):=by
  obtain⟨m,rfl⟩:∃m,n=m+1:=⟨n-1,Om⟩;rw[Nat.pow_succ,Nat.add_sub_cancel,Nat.mul_comm]
theorem tZ (w x c:Nat) (h:w=x/2^c):w/2^2=x/2^(c+2):=by rw[h,Nat.div_div_eq_div_mul, ←Nat.pow_add]
theorem x4 {w x c:Nat} (h:w=x/2^c) (hx:x<4294967296):w<4294967296:=by
  have:=Nat.div_le_self x (2^c);omega
theorem Cf.congr {dt:List Nat} {L:Nat} {cd cd':Nat→Nat × Nat} {S S':Nat→Prop} (h:Cf dt L cd S) (h1:∀c,S' c→S c∧cd c=cd' c):Cf dt L cd' S':=
  ⟨h.L1,h.L16,fun c hc=>by rw[←(h1 c hc).2];exact h.one c (h1 c hc).1,fun c hc v hv he=>by rw[←(h1 c hc).2] at he ⊢;exact h.at_ c (h1 c hc).1 v hv he⟩
def Has (ls:List Nat) (c:Nat):Prop:=1≤ls.getD c 0
theorem KR {ls r dt:List Nat} {L last:Nat} (h:HW ls L last) (hw:jn ls) (he:nh ls) (hr:r.length=16) (jl:∀w,0<w→w≤L→r.getD w 0=startW (l8 ls L last) w) (hdt:dt.length=2048):
    Cf (fillT L 0 (l8 ls L last) r dt) L (p5 ls) (Has ls)∧(fillT L 0 (l8 ls L last) r dt).length=2048:=by
  have hL:=h.L11 hw;have hlen:=vQ h;have hl:=h.lt;have CD:=hw.1;obtain⟨h1,h2⟩:=xW (ws:=l8 ls L last) (r:=r) (dt:=dt) h.L1 hL Om Ba hr jl (by rw[mD _ Ba];exact qe h hw hL) hdt;refine⟨h1.congr fun c hc=>?_,h2⟩;obtain⟨h3,h4⟩:=Rq h hL he hc;refine⟨⟨Om,?_⟩,h3⟩;have h5:=h.GR c;have h6:1≤ls.getD c 0:=hc;rw[CU h h4];unfold uV;rw[if_neg Om];omega
theorem dV.ofBits {xs dt ls t:List Nat} {k len L tt:Nat} (hT:Cf dt L (p5 ls) (Has ls)) (hb:Bytes xs) (ht:4≤tt) (ha:∀c ∈ t,Has ls c) (hl:len=tN (p5 ls) t/8+1) (hv:tailV xs k len=2^tN (p5 ls) t+bitsV (codeBits ls t)):
    dV xs k len (p5 ls) (Has ls) (BR.init tt xs k len) t∧0<xs.getD (k+(len-1)) 0:=by
  have h1:=p9 ls t fun c hc=>(hT.one c (ha c hc)).2.2.2
  rw[h1] at hv;obtain⟨h2,h3⟩:=Pos.tH (t:=tt) hb ht hl (GH hT t ha) hv;exact⟨⟨h2,ha⟩,h3⟩
theorem sw {a b:List Nat} {i:Nat} (h:a.length≤i):(a++b).getD i 0=b.getD (i-a.length) 0:=by
  simp only[List.getD_eq_getElem?_getD];rw[List.getElem?_append_right h]
theorem EW {a b:List Nat} {i:Nat} (h:i<a.length):(a++b).getD i 0=a.getD i 0:=by
  simp only[List.getD_eq_getElem?_getD];rw[List.getElem?_append_left h]
inductive dj:Nat→List Int→List Nat→Prop
  |done:dj 0 [] []
  |num (left:Nat) (n:Int) (cs:List Int) (bits:List Nat):n≠0→ -1≤n→n.natAbs≤left→dj (left-n.natAbs) cs bits→dj left (n::cs) (jQ (left+1) (n+1).toNat++bits)
  |zer (left z:Nat) (c:Int) (cs:List Int) (bits:List Nat):0<left→c≠0→dj left (c::cs) bits→dj left (0::(List.replicate z 0++c::cs)) (jQ (left+1) 1++(cN z++bits))
theorem dj.bits {l:Nat} {cs:List Int} {E:List Nat} (h:dj l cs E):pG E:=by
  induction h with
  |done=>exact fun x hx=>by cases hx
  |num l n cs b h0 h1 hl hd ih=>exact pG.app (qP _ _) ih
  |zer l z c cs b h0 hc hd ih=>exact pG.app (qP _ _) (pG.app (ni _) ih)
theorem dj.inv {left:Nat} {cs:List Int} {E:List Nat} (h:dj left cs E) (h0:0<left):∃n t b,E=jQ (left+1) (n+1).toNat++b∧cs=n::t∧ -1≤n∧n.natAbs≤left∧
    ((n≠0∧dj (left-n.natAbs) t b)∨(n=0∧∃z c t2 b2,b=cN z++b2∧t=List.replicate z 0++c::t2∧dj left (c::t2) b2)):=by
  cases h with
  |done=>omega
  |num l n t b h1 h2 h3 h4=>exact⟨n,t,b,rfl,rfl,h2,h3,.inl ⟨h1,h4⟩⟩
  |zer l z c t b h1 h2 h3=>exact⟨0,_,_,rfl,rfl,Om,Oi,.inr ⟨rfl,z,c,t,b,rfl,rfl,h3⟩⟩
theorem dj.VY {cs:List Int} {E:List Nat} {left:Nat} (h:dj left cs E) (h0:left=0):E=[]∧cs=[]:=by
  cases h with
  |done=>exact⟨rfl,rfl⟩
  |num l n t b h1 h2 h3 h4=>omega
  |zer l z c t b h1 h2 h3=>omega
theorem dj.VZ {l:Nat} {cs:List Int} {E:List Nat} (h:dj l cs E):l<128→E.length≤10*cs.length:=by
  induction h with
  |done=>intro _;simp
  |num l n cs b h0 h1 hl hd ih=>
    intro h9;have h8:=(mB (dQ:=l+1) (v:=(n+1).toNat)).2;have h7:av (l+1)≤8:=dx Om;have:=ih Om;simp only[List.length_append,List.length_cons];omega
  |zer l z c cs b h0 hc hd ih=>
    intro h9;have h8:=(mB (dQ:=l+1) (v:=1)).2;have h7:av (l+1)≤8:=dx Om;have:=ih h9;have hz:=qR z;simp only[List.length_append,List.length_cons,List.length_replicate] at this ⊢;omega
def CY (S:Nat) (cs:List Int) (pz:Bool) (left i:Nat) (E:List Nat):Prop:=
  (pz=false∧∀rest,dj left (cs.drop i) rest→dj S cs (E++rest))∨(pz=true∧∀z c t b,cs.drop i=List.replicate z 0++c::t→c≠0→dj left (c::t) b→dj S cs (E++(cN z++b)))
theorem CY.begin (S:Nat) (cs:List Int):CY S cs false S 0 []:=.inl ⟨rfl,fun rest h=>by simpa using h⟩
theorem qS {xs:List Int} {i:Nat} (h:i<xs.length):xs.drop i=xs.getD i 0::xs.drop (i+1):=by rw[List.drop_eq_getElem_cons h];simp[h]
theorem vT {xs:List Int} {i:Nat}:∀z,(∀j,j<z→xs.getD (i+j) 0=0)→i+z≤xs.length→xs.drop i=List.replicate z 0++xs.drop (i+z)
  |0,_,_=>by simp
  |z+1,h,hl=>by
    rw[vT z (fun j hj=>h j Om) Om,qS (i:=i+z) Om,h z Om,List.replicate_succ',List.append_assoc]
    rfl
theorem CY.num {S left i:Nat} {cs:List Int} {E:List Nat} {n:Int} (h:CY S cs false left i E) (hi:i<cs.length) (hn:cs.getD i 0=n) (h0:n≠0) (h1: -1≤n) (hl:n.natAbs≤left):CY S cs false (left-n.natAbs) (i+1) (E++jQ (left+1) (n+1).toNat):=by
  rcases h with ⟨_,h⟩|⟨h,_⟩
  · refine .inl ⟨rfl,fun rest hr=>?_⟩;rw[List.append_assoc];refine h _ ?_;rw[qS hi,hn];exact dj.num left n _ rest h0 h1 hl hr
  · cases h
theorem CY.zero {S left i:Nat} {cs:List Int} {E:List Nat} (h:CY S cs false left i E) (hi:i<cs.length) (hn:cs.getD i 0=0) (h0:0<left):CY S cs true left (i+1) (E++jQ (left+1) 1):=by
  rcases h with ⟨_,h⟩|⟨h,_⟩
  · refine .inr ⟨rfl,fun z c t b e hc hr=>?_⟩;rw[List.append_assoc];refine h _ ?_;rw[qS hi,hn,e];exact dj.zer left z c t b h0 hc hr
  · cases h
theorem CY.run {S left i z:Nat} {cs:List Int} {E:List Nat} (h:CY S cs true left i E) (hi:i+z<cs.length) (hz:∀j,j<z→cs.getD (i+j) 0=0) (hc:cs.getD (i+z) 0≠0):CY S cs false left (i+z) (E++cN z):=by
  rcases h with ⟨h,_⟩|⟨_,h⟩
  · cases h
  · refine .inl ⟨rfl,fun rest hr=>?_⟩;rw[List.append_assoc];have e:=vT z hz Om;rw[qS hi] at e hr;exact h z _ _ rest e hc hr
theorem CY.done {S:Nat} {cs:List Int} {pz:Bool} {i:Nat} {E:List Nat} (h:CY S cs pz 0 i E) (hp:pz=false) (hi:i=cs.length):dj S cs E:=by
  rcases h with ⟨_,h⟩|⟨h1,_⟩
  · have:=h [] (by rw[hi,List.drop_length];exact dj.done);simpa using this
  · rw[hp] at h1;cases h1
def Bc (L:Nat) (pz:Bool) (rem cn len:Nat):Prop:=len+(if 2^L≤rem then 1 else 0)+(if pz=true then 1 else 0)≤5+(L+1)*cn
theorem z9 {L rem v:Nat} (hL:L=5∨L=6) (h1:1≤rem) (h2:rem≤2^L+1) (hv:v≤rem):(jQ rem v).length≤L+1∧(rem<2^L→(jQ rem v).length≤L)∧(v≤2→(jQ rem v).length≤L):=by
  have h3:=(mB (dQ:=rem) (v:=v)).2;have hz:2^(L+1)=2*2^L:=by rw[Nat.pow_succ,Nat.mul_comm]
  have h4:av rem≤L+1:=dx (by rcases hL with rfl|rfl<;>omega);have h5:rem<2^L→av rem≤L:=fun h=>dx h
  refine⟨Om,fun h=>by have:=h5 h;omega,fun y'=>?_⟩;rcases Nat.lt_or_ge rem (2^L) with h|h
  · have:=h5 h;omega
  · have h6:av rem=L+1:=lu (by rw[Nat.add_sub_cancel];exact h) (by rcases hL with rfl|rfl<;>omega) Om;unfold jQ;rw[if_pos (by rw[h6];rcases hL with rfl|rfl<;>omega),bY,h6];omega
theorem Bc.num {L rem cn len n:Nat} (h:len+(if 2^L≤rem then 1 else 0)≤5+(L+1)*cn+1) (hL:L=5∨L=6) (hr:rem≤2^L+1) (h1:1≤rem) (hn:1≤n) (EN:n+1≤rem) {v:Nat} (hv:v≤n+1):Bc L false (rem-n) (cn+1) (len+(jQ rem v).length):=by
  obtain⟨c1,c2,c3⟩:=z9 (v:=v) hL h1 hr Om;unfold Bc;have e:(L+1)*(cn+1)=(L+1)*cn+(L+1):=Nat.mul_succ _ _;rw[e,if_neg (show¬(false=true) by decide)];by_cases hs:2^L≤rem
  · rw[if_pos hs] at h;by_cases HP:2^L≤rem-n
    · rw[if_pos HP];have:=c3 Om;omega
    · rw[if_neg HP];omega
  · rw[if_neg hs] at h;rw[if_neg Om];have:=c2 Om;omega
theorem Bc.zero {L rem cn len:Nat} (h:Bc L false rem cn len) (hL:L=5∨L=6) (hr:rem≤2^L+1) (h1:1≤rem):Bc L true rem (cn+1) (len+(jQ rem 1).length):=by
  obtain⟨c1,c2,c3⟩:=z9 (v:=1) hL h1 hr h1;have:=c3 Om;unfold Bc at h ⊢;have e:(L+1)*(cn+1)=(L+1)*cn+(L+1):=Nat.mul_succ _ _;rw[e,if_pos rfl];rw[if_neg (show¬(false=true) by decide)] at h;omega
theorem Bc.run {L rem cn len:Nat} (h:Bc L true rem cn len) (z:Nat):len+(cN z).length+(if 2^L≤rem then 1 else 0)≤5+(L+1)*(cn+z)+1:=by
  unfold Bc at h;rw[if_pos rfl] at h;have hz:=qR z;have e:(L+1)*(cn+z)=(L+1)*cn+(L*z+z):=by rw[Nat.mul_add,Nat.succ_mul L z]
  have e2:0≤L*z:=Nat.zero_le _;rcases Nat.eq_zero_or_pos L with hL|hL
  · subst hL;simp at*;omega
  · have:1*z≤L*z:=Nat.mul_le_mul_right _ hL;omega
theorem Bc.sx {L rem cn len:Nat} (h:Bc L false rem cn len):len+(if 2^L≤rem then 1 else 0)≤5+(L+1)*cn+1:=by
  unfold Bc at h;rw[if_neg (show¬(false=true) by decide)] at h;omega
structure jR (log:Nat) (T:List Cell) (text ys:List Nat):Prop where
  ex:∃A,mZ log T text A∧(∀i,i<text.length→text.length≤i+2→1≤(T.getD (A.getD i 0) (0,0,0)).2.1)∧Bytes ys∧ys.length=(2*log+fN T A)/8+1∧tailV ys 0 ((2*log+fN T A)/8+1)=2^(2*log+fN T A)+((A.getD 0 0*2^log+A.getD 1 0)*2^fN T A+fR T A)
structure gK (log:Nat) (cs:List Int) (text ys:List Nat):Prop where
  cB:cp log cs
  ex:∃E H B,ys=H++B∧dj (2^log) cs E∧Bytes H∧H.length=(4+E.length+7)/8∧tailV H 0 ((4+E.length+7)/8)=lowV (fU (log-5) 4++E)∧jR log (e7 log cs) text B
theorem z' {log:Nat} {T:List Cell} {text A:List Nat} (hF:mZ log T text A):(A.getD 0 0*2^log+A.getD 1 0)*2^fN T A+fR T A<2^(2*log+fN T A):=by
  have h1:fR T A<2^fN T A:=by have:=mZ.lt_ hF _ 0 rfl;rwa [List.drop_zero] at this
  have h0:0<2^log:=Nat.two_pow_pos _;have adO:∀i,A.getD i 0<2^log:=fun i=>by
    rcases Nat.lt_or_ge i A.length with hi|hi
    · exact hF.lt _ (by simp[List.getD_eq_getElem?_getD,hi])
    · rw[List.getD_eq_getElem?_getD,List.getElem?_eq_none hi];exact h0
  have ha:=adO 0;have hb:=adO 1;generalize A.getD 0 0=a at*;generalize A.getD 1 0=b at*;have e:2^(2*log+fN T A)=(2^log*2^log)*2^fN T A:=by rw[Nat.pow_add,Nat.two_mul,Nat.pow_add]
  have h3:(a+1)*2^log≤2^log*2^log:=Nat.mul_le_mul_right _ ha;have h2:(a*2^log+b+1)*2^fN T A≤(2^log*2^log)*2^fN T A:=Nat.mul_le_mul_right _ (by rw[Nat.add_mul,Nat.one_mul] at h3;omega);rw[Nat.add_mul _ 1,Nat.one_mul] at h2;rw[e];omega
theorem jR.last {log:Nat} {T:List Cell} {text ys:List Nat} (h:jR log T text ys):0<ys.length∧ys.getD (ys.length-1) 0≠0∧Bytes ys:=by
  obtain⟨A,h1,_,h2,h3,h4⟩:=h.ex;have:=(Pos.tH (k:=0) (t:=4) h2 Om rfl (z' h1) h4).2;rw[Nat.zero_add, ←h3] at this;exact⟨Om,Om,h2⟩
theorem gK.bytes {log:Nat} {cs:List Int} {ws b:List Nat} (h:gK log cs ws b):Bytes b:=by
  obtain⟨E,H,B,e,h1,h2,h3,h4,h5⟩:=h.ex;have hB:=h5.last.2.2;exact e▸fun x hx=>(List.mem_append.1 hx).elim (h2 x) (hB x)
theorem gK.read {log:Nat} {cs:List Int} {ws b:List Nat} (h:gK log cs ws b):∃E,dj (2^log) cs E∧zT b b.length 0 (fU (log-5) 4++E)∧0<(b.drop ((4+E.length+7)/8)).length∧(b.drop ((4+E.length+7)/8)).getD ((b.drop ((4+E.length+7)/8)).length-1) 0≠0∧jR log (e7 log cs) ws (b.drop ((4+E.length+7)/8)):=by
  have PQ:=h.bytes;obtain⟨E,H,B,e,h1,h2,h3,h4,h5⟩:=h.ex;have hB:=h5.last;have e2:b.drop ((4+E.length+7)/8)=B:=by rw[e, ←h3,List.drop_append_of_le_length (Nat.le_refl _),List.drop_length,List.nil_append]
  refine⟨E,h1,?_,by rw[e2];exact hB.1,by rw[e2];exact hB.2.1,by rw[e2];exact h5⟩;have hle:(fU (log-5) 4++E).length=4+E.length:=by rw[List.length_append,bY]
  have GJ:b.length=H.length+B.length:=by rw[e,List.length_append]
  refine zT.VO (by rw[hle,GJ,h3];omega) ?_;have e1:=vl PQ 0 (m:=H.length) (n:=b.length) Om;have e3:tailV b 0 H.length=tailV H 0 H.length:=lA _ fun i hi=>by rw[e];simp[List.getD_eq_getElem?_getD,List.getElem?_append_left hi]
  rw[e3,h3,h4] at e1;have h6:pG (fU (log-5) 4++E):=pG.app (j5 _ 4) h1.bits;have hd:2^(fU (log-5) 4++E).length∣2^(8*((4+E.length+7)/8)):=Nat.pow_dvd_pow 2 (by rw[hle];omega);rw[←Nat.mod_mod_of_dvd _ hd,e1,Nat.mod_eq_of_lt (wV h6)]
def fO {α:Type} (size m:Nat) (all:Nat→α) (G:Nat→α) (k j:Nat):Prop:=∀i,(i<k∨(size-m≤i∧i<size-m+j))→G ((k7 size m).getD i 0)=all i
section
variable {α:Type} {size m k j:Nat} {all G G':Nat→α}
theorem fO.zero:fO size m all G 0 0:=fun i h=>by omega
theorem fO.low (h:fO size m all G 0 j) (hs:qb size m) (hj:j<m) (e:G' (size-1-j)=all (size-m+j)) (o:∀u,u≠size-1-j→G' u=G u):fO size m all G' 0 (j+1):=fun i hi=>by
  have hle:=hs.le;have hb:=hs.back hj;by_cases ei:i=size-m+j
  · subst ei;rw[hb];exact e
  · rw[o _ fun he=>ei (hs.inj Om Om (he.trans hb.symm))];exact h i Om
theorem fO.flat (h:fO size m all G k m) (hs:qb size m) (hk:k<size-m) {p:Nat} (hp:p=(nJ size m).getD k 0) (e:G' p=all k) (o:∀u,u≠p→G' u=G u):fO size m all G' (k+1) m:=fun i hi=>by
  have hle:=hs.le;rw[←hs.seq hk] at hp;by_cases ei:i=k
  · subst ei;rw[←hp];exact e
  · rw[o _ fun he=>ei (hs.inj Om Om (he.trans hp))];exact h i Om
theorem fO.done (h:fO size m all G (size-m) m) (hs:qb size m) {u:Nat} (hu:u<size):G u=all ((k7 size m).idxOf u):=by
  obtain⟨h1,h2⟩:=hs.met hu;have hle:=hs.le;have:=h ((k7 size m).idxOf u) Om;rwa [h2] at this
end
def wF (size m k:Nat):Nat:=(nJ size m).getD (k%(size-m)) 0
section
variable {size m k:Nat}
theorem KS (h:qb size m):wF size m 0=0:=by unfold wF;rw[Nat.zero_mod];exact h.first
theorem KT (h:qb size m):wF size m (size-m)=0:=by unfold wF;rw[Nat.mod_self];exact h.first
theorem V1 (h:qb size m) (k:Nat):wF size m k+m<size:=by
  have hle:=h.le;have hk:k%(size-m)<size-m:=Nat.mod_lt _ Om;unfold wF;have hl:=h.len;have:(nJ size m).getD (k%(size-m)) 0 ∈ nJ size m:=by simp[List.getD_eq_getElem?_getD,hl,hk]
  simp only[nJ,List.mem_filter,decide_eq_true_eq] at this;exact this.2
theorem KU (h:qb size m) (k:Nat):goM size m size ((wF size m k+fk size)%size)=wF size m (k+1):=by
  have hle:=h.le;unfold wF;rw[adL h (Nat.mod_lt _ Om),Nat.mod_add_mod]
theorem Rt (h:qb size m) (hk:k<size-m):wF size m k=(nJ size m).getD k 0:=by unfold wF;rw[Nat.mod_eq_of_lt hk]
end
def k8 (cs:List Int) (s:Nat):Nat:=((cs.map fun n=>(-n).toNat).take s).sum
def eW (cs:List Int) (s:Nat):Nat:=((cs.map Int.toNat).take s).sum
theorem x7:∀(xs:List Nat) (b s k:Nat),k<xs.getD s 0→(flatC b xs).getD ((xs.take s).sum+k) 0=b+s
  |[],b,s,k,h=>by simp at h
  |n::xs,b,0,k,h=>by
    have hk:k<n:=by simpa using h
    simp only[List.take_zero,List.sum_nil,Nat.zero_add,flatC,List.getD_eq_getElem?_getD];rw[List.getElem?_append_left (by rw[List.length_replicate];exact hk),List.getElem?_replicate,if_pos hk];rfl
  |n::xs,b,s+1,k,h=>by
    have hk:k<xs.getD s 0:=by simpa using h
    have ih:=x7 xs (b+1) s k hk;simp only[List.take_succ_cons,List.sum_cons,flatC,List.getD_eq_getElem?_getD] at ih ⊢;rw[List.getElem?_append_right (by rw[List.length_replicate];omega),List.length_replicate,show n+(xs.take s).sum+k-n=(xs.take s).sum+k by omega,ih];omega
theorem x8 {xs:List Nat} {s:Nat}:(xs.take (s+1)).sum=(xs.take s).sum+xs.getD s 0:=eg
section
variable {cs:List Int} {s:Nat}
theorem gp:k8 cs (s+1)=k8 cs s+(-(cs.getD s 0)).toNat:=by
  unfold k8;rw[x8,j6 rfl]
theorem iS:eW cs (s+1)=eW cs s+(cs.getD s 0).toNat:=by
  unfold eW;rw[x8,j6 rfl]
theorem Aa:k8 cs 0=0:=rfl
theorem n8 (h:cs.length≤s):k8 cs s=(ck cs).length:=by unfold k8;rw[List.take_of_length_le (by simpa using h),l6]
theorem Ab (h:cs.length≤s):eW cs s=(n4 cs).length:=by unfold eW;rw[List.take_of_length_le (by simpa using h),o6]
theorem qU:k8 cs s≤(ck cs).length:=by unfold k8;rw[l6];exact qa _ _
theorem CZ:eW cs s≤(n4 cs).length:=by unfold eW;rw[o6];exact qa _ _
end
def n9 (cs:List Int):List Nat:=n4 cs++ck cs
theorem Ie {cs:List Int} {s k:Nat} (h:k<(cs.getD s 0).toNat):(n9 cs).getD (eW cs s+k) 0=s:=by
  have h1:=x7 (cs.map Int.toNat) 0 s k (by rw[j6 rfl];exact h);have h2:eW cs s+k<(n4 cs).length:=by
    have:=CZ (cs:=cs) (s:=s+1);rw[iS] at this;omega
  unfold n9;simp only[List.getD_eq_getElem?_getD] at h1 ⊢;rw[List.getElem?_append_left h2];simpa [eW,n4] using h1
theorem KV {cs:List Int} {s:Nat} (h:cs.getD s 0= -1):(n9 cs).getD ((n4 cs).length+k8 cs s) 0=s:=by
  have h1:=x7 (cs.map fun n=>(-n).toNat) 0 s 0 (by rw[j6 rfl,h];decide);unfold n9;simp only[List.getD_eq_getElem?_getD] at h1 ⊢;rw[List.getElem?_append_right Om,show(n4 cs).length+k8 cs s-(n4 cs).length=k8 cs s by omega];simpa [k8,ck] using h1
section
variable {log:Nat} {cs:List Int}
theorem EX {u:Nat} (hu:u<2^log):(dA log cs).getD u 0=(n9 cs).getD ((k7 (2^log) (ck cs).length).idxOf u) 0:=by
  unfold dA;rw[EO hu];rfl
theorem Ru (h:cp log cs) {s:Nat} (hs:cs.getD s 0= -1):k8 cs s<(ck cs).length:=by
  have:=qU (cs:=cs) (s:=s+1);rw[gp,hs] at this;have e:(-(-1:Int)).toNat=1:=rfl;omega
theorem cp.at_ (h:cp log cs) (s:Nat): -1≤cs.getD s 0∧cs.getD s 0<2^log:=by
  rcases Nat.lt_or_ge s cs.length with hs|hs
  · have hm:cs.getD s 0 ∈ cs:=by simp[List.getD_eq_getElem?_getD,hs]
    exact⟨h.ge _ hm,h.lt _ hm⟩
  · rw[List.getD_eq_getElem?_getD,List.getElem?_eq_none hs];have:(0:Int)<2^log:=by exact_mod_cast Nat.two_pow_pos log
    simpa using this
theorem Ig (h:cp log cs) {u:Nat} (hu:u<2^log):(dA log cs).getD u 0<cs.length:=by
  obtain⟨s,k,_,h2,h3,_⟩:=o7 h hu;omega
end
def sm (W:Nat→Nat):Nat→Nat
  |0=>0
  |n+1=>sm W n+W n
theorem cg {W W':Nat→Nat}:∀{n:Nat},(∀i,i<n→W i=W' i)→sm W n=sm W' n
  |0,_=>rfl
  |n+1,h=>by simp only[sm];rw[cg fun i hi=>h i Om,h n Om]
structure Tr (N:Nat) (C:Nat→Nat) (m p u c S B0 B:Nat) (CI PL PI:Nat→Nat):Prop where
  num:N-u+c=2*m+p∧u≤N∧c≤m∧p≤2
  nR:∀i j,i≤j→j<N→C j≤C i
  pl:∀i,u≤i→i<N→PL i≤m∧(p=0→PL i<m)
  pi:∀a,a<c→a<PI a∧PI a≤m∧(p=0→PI a<m)
  ml:∀i j,u≤i→i≤j→j<N→PL j≤PL i
  mi:∀a b,a≤b→b<c→PI a≤PI b
  w:∀W V:Nat→Nat,(∀i,u≤i→i<N→2*W i=V (PL i))→(∀a,a<c→2*V a=V (PI a))→2*(sm W N+sm V c)=2*(sm W u+sm V m)+p*V m
  bb:B0≤B
  c1:∀i,u≤i→i<N→C i≤B∧(PL i<m→C i≤B0)∧(PL i=m→C i≤S)
  c2:∀a,a<c→CI a≤B∧(PI a<m→CI a≤B0)∧(PI a=m→CI a≤S)
  c3:∀i,i<u→B≤C i
  c4:∀a,c≤a→a<m→B≤CI a
  cs:p*B0≤S∧S≤p*B∧(0<p→B≤S)
  cm:∀a b,a≤b→b<m→CI a≤CI b
  ti:∀a,a<m→CI a≤2*B0
  g1:∀i,u≤i→i<N→PL i<c→PI (PL i)<m→2*C i≤CI (PI (PL i))
  g2:∀a,a<c→PI a<c→PI (PI a)<m→2*CI a≤CI (PI (PI a))
  q1:∀i,u≤i→i<N→PL i<m→C i≤CI (PL i)
  q2:∀a,a<c→PI a<m→CI a≤CI (PI a)
  iy:sm C u+sm CI m+S=sm C N+sm CI c
theorem Tr.begin {N:Nat} {C:Nat→Nat} (hs:∀i j,i≤j→j<N→C j≤C i) (CI PL PI:Nat→Nat):Tr N C 0 0 N 0 0 0 0 CI PL PI where
  num:=Om
  nR:=hs
  pl:=fun i h1 h2=>by omega
  pi:=fun a h=>by omega
  ml:=fun i j h1 h2 h3=>by omega
  mi:=fun a b h1 h2=>by omega
  w:=fun W V _ _=>by simp[sm]
  bb:=Nat.le_refl _
  c1:=fun i h1 h2=>by omega
  c2:=fun a h=>by omega
  c3:=fun i h=>Nat.zero_le _
  c4:=fun a h1 h2=>by omega
  cs:=Om
  cm:=fun a b h1 h2=>by omega
  ti:=fun a h=>by omega
  g1:=fun i h1 h2=>by omega
  g2:=fun a h=>by omega
  q1:=fun i h1 h2=>by omega
  q2:=fun a h=>by omega
  iy:=by simp[sm]
section
variable {N:Nat} {C:Nat→Nat} {m p u c S B0 B:Nat} {CI PL PI:Nat→Nat}
theorem Tr.leaf (h:Tr N C m p u c S B0 B CI PL PI) (hp:p≤1) (hu:0<u) (hc:c=m∨C (u-1)≤CI c):
    Tr N C m (p+1) (u-1) c (S+C (u-1)) B0 (C (u-1)) CI (fun i=>if i=u-1 then m else PL i) PI:=by
  have hn:=h.num;have hB:=h.c3 (u-1) Om;have hav:∀a,c≤a→a<m→C (u-1)≤CI a:=fun a h1 h2=>by
    rcases hc with hc|hc
    · omega
    · exact Nat.le_trans hc (h.cm c a h1 h2)
  have Ed:=h.cs;have PQ:=h.bb;have EU:∀i,u-1≤i→i<N→i≠u-1→u≤i:=fun i h1 h2 h3=>by omega
  constructor
  · omega
  · exact h.nR
  · intro i h1 h2;by_cases e:i=u-1
    · simp[e]
    · have:=h.pl i (EU i h1 h2 e) h2;simp only[if_neg e];exact⟨this.1,fun hz=>Om⟩
  · intro a ha;have:=h.pi a ha;exact⟨this.1,this.2.1,fun hz=>Om⟩
  · intro i j h1 h2 h3;by_cases e:i=u-1
    · by_cases e2:j=u-1
      · simp[e,e2]
      · simp only[if_neg e2,if_pos e];exact(h.pl j Om h3).1
    · simp only[if_neg e,if_neg (show j≠u-1 by omega)];exact h.ml i j Om h2 h3
  · exact h.mi
  · intro W V hW hV;have h1:=h.w W V (fun i Rv C1=>by have:=hW i Om C1;rwa [if_neg Om] at this) hV;have h2:=hW (u-1) (Nat.le_refl _) Om;simp only[if_true] at h2;have h3:sm W u=sm W (u-1)+W (u-1):=by rw[show u=(u-1)+1 by omega];rfl
    rw[Nat.add_mul,Nat.one_mul];omega
  · omega
  · intro i h1 h2;by_cases e:i=u-1
    · subst e;simp only[if_true];exact⟨Nat.le_refl _,fun hz=>Om,fun _=>Om⟩
    · have:=h.c1 i (EU i h1 h2 e) h2;simp only[if_neg e];exact⟨Om,this.2.1,fun hz=>by have:=this.2.2 hz;omega⟩
  · intro a ha;have:=h.c2 a ha;exact⟨Om,this.2.1,fun hz=>by have:=this.2.2 hz;omega⟩
  · intro i hi;exact h.nR i (u-1) Om Om
  · exact hav
  · have e1:p*B≤p*C (u-1):=Nat.mul_le_mul_left _ hB;rw[Nat.add_mul,Nat.add_mul,Nat.one_mul,Nat.one_mul];exact⟨Om,Om,fun _=>Om⟩
  · exact h.cm
  · exact h.ti
  · intro i h1 h2 h3 h4;by_cases e:i=u-1
    · simp only[if_pos e] at h3 h4;omega
    · simp only[if_neg e] at h3 h4 ⊢;exact h.g1 i (EU i h1 h2 e) h2 h3 h4
  · exact h.g2
  · intro i h1 h2 h3;by_cases e:i=u-1
    · simp only[if_pos e] at h3;omega
    · simp only[if_neg e] at h3 ⊢;exact h.q1 i (EU i h1 h2 e) h2 h3
  · exact h.q2
  · have h3:sm C u=sm C (u-1)+C (u-1):=by rw[show u=(u-1)+1 by omega];rfl
    have:=h.iy;omega
theorem Tr.inner (h:Tr N C m p u c S B0 B CI PL PI) (hp:p≤1) (vU:c<m) (hc:u=0∨CI c≤C (u-1)):
    Tr N C m (p+1) u (c+1) (S+CI c) B0 (CI c) CI PL (fun a=>if a=c then m else PI a):=by
  have hn:=h.num;have hB:=h.c4 c (Nat.le_refl _) vU;have hav:∀i,i<u→CI c≤C i:=fun i hi=>by
    rcases hc with hc|hc
    · omega
    · exact Nat.le_trans hc (h.nR i (u-1) Om Om)
  have Ed:=h.cs;have PQ:=h.bb;constructor
  · omega
  · exact h.nR
  · intro i h1 h2;have:=h.pl i h1 h2;exact⟨this.1,fun hz=>Om⟩
  · intro a ha;by_cases e:a=c
    · subst e;simp only[if_true];exact⟨vU,Nat.le_refl _,fun hz=>Om⟩
    · have:=h.pi a Om;simp only[if_neg e];exact⟨this.1,this.2.1,fun hz=>Om⟩
  · exact h.ml
  · intro a b h1 h2;by_cases e:b=c
    · by_cases e2:a=c
      · simp[e,e2]
      · simp only[if_neg e2,if_pos e];exact(h.pi a Om).2.1
    · simp only[if_neg e,if_neg (show a≠c by omega)];exact h.mi a b h1 Om
  · intro W V hW hV;have h1:=h.w W V hW (fun a ha=>by have:=hV a Om;rwa [if_neg Om] at this);have h2:=hV c Om;simp only[if_true] at h2;have h3:sm V (c+1)=sm V c+V c:=rfl;rw[Nat.add_mul,Nat.one_mul];omega
  · omega
  · intro i h1 h2;have:=h.c1 i h1 h2;exact⟨Om,this.2.1,fun hz=>by have:=this.2.2 hz;omega⟩
  · intro a ha;by_cases e:a=c
    · subst e;simp only[if_true];exact⟨Nat.le_refl _,fun hz=>Om,fun _=>Om⟩
    · have:=h.c2 a Om;simp only[if_neg e];exact⟨Om,this.2.1,fun hz=>by have:=this.2.2 hz;omega⟩
  · exact hav
  · intro a h1 h2;exact h.cm c a Om h2
  · have e1:p*B≤p*CI c:=Nat.mul_le_mul_left _ hB;rw[Nat.add_mul,Nat.add_mul,Nat.one_mul,Nat.one_mul];exact⟨Om,Om,fun _=>Om⟩
  · exact h.cm
  · exact h.ti
  · intro i h1 h2 h3 h4;by_cases e:PL i=c
    · simp only[if_pos e] at h4;omega
    · simp only[if_neg e] at h4 ⊢;exact h.g1 i h1 h2 Om h4
  · intro a h1 h2 h3;by_cases e:a=c
    · subst e;simp only[if_true] at h2;omega
    · simp only[if_neg e] at h2 h3 ⊢;by_cases e2:PI a=c
      · simp only[if_pos e2] at h3;omega
      · simp only[if_neg e2] at h3 ⊢;exact h.g2 a Om Om h3
  · exact h.q1
  · intro a h1 h2;by_cases e:a=c
    · simp only[if_pos e] at h2;omega
    · simp only[if_neg e] at h2 ⊢;exact h.q2 a Om h2
  · have h3:sm CI (c+1)=sm CI c+CI c:=rfl;have:=h.iy;omega
theorem Tr.node (h:Tr N C m 2 u c S B0 B CI PL PI):Tr N C (m+1) 0 u c 0 B B (fun a=>if a=m then S else CI a) PL PI:=by
  have hn:=h.num;have Ed:=h.cs;have PQ:=h.bb;have hti:∀a,a<m→CI a≤S:=fun a ha=>by have:=h.ti a ha;omega
  constructor
  · omega
  · exact h.nR
  · intro i h1 h2;have:=h.pl i h1 h2;exact⟨Om,fun _=>Om⟩
  · intro a ha;have:=h.pi a ha;exact⟨this.1,Om,fun _=>Om⟩
  · exact h.ml
  · exact h.mi
  · intro W V hW hV;have:=h.w W V hW hV;have h3:sm V (m+1)=sm V m+V m:=rfl;omega
  · exact Nat.le_refl _
  · intro i h1 h2;have:=h.c1 i h1 h2;have:=h.pl i h1 h2;exact⟨Om,fun _=>Om,fun hz=>Om⟩
  · intro a ha;have:=h.c2 a ha;have:=h.pi a ha;simp only[if_neg (show a≠m by omega)];exact⟨Om,fun _=>Om,fun hz=>Om⟩
  · exact h.c3
  · intro a h1 h2;by_cases e:a=m
    · simp only[if_pos e];exact Ed.2.2 Om
    · simp only[if_neg e];exact h.c4 a h1 Om
  · omega
  · intro a b h1 h2;by_cases e:b=m
    · by_cases e2:a=m
      · simp[e,e2]
      · simp only[if_pos e,if_neg e2];exact hti a Om
    · simp only[if_neg e,if_neg (show a≠m by omega)];exact h.cm a b h1 Om
  · intro a ha;by_cases e:a=m
    · simp only[if_pos e];omega
    · simp only[if_neg e];have:=h.ti a Om;omega
  · intro i h1 h2 h3 h4;have hp:=h.pl i h1 h2;have kQ:=h.c1 i h1 h2;by_cases e:PI (PL i)=m
    · simp only[if_pos e];have:=kQ.2.1 Om;omega
    · simp only[if_neg e];exact h.g1 i h1 h2 h3 Om
  · intro a h1 h2 h3;have Cn:=h.c2 a h1;simp only[if_neg (show a≠m by omega)];by_cases e:PI (PI a)=m
    · simp only[if_pos e];have:=Cn.2.1 Om;omega
    · simp only[if_neg e];exact h.g2 a h1 h2 Om
  · intro i h1 h2 h3;by_cases e:PL i=m
    · simp only[if_pos e];exact(h.c1 i h1 h2).2.2 e
    · simp only[if_neg e];exact h.q1 i h1 h2 Om
  · intro a h1 h2;simp only[if_neg (show a≠m by omega)];by_cases e:PI a=m
    · simp only[if_pos e];exact(h.c2 a h1).2.2 e
    · simp only[if_neg e];exact h.q2 a h1 Om
  · have h3:sm (fun a=>if a=m then S else CI a) (m+1)=sm CI m+S:=by
      simp only[sm,if_true];rw[cg (W:=fun a=>if a=m then S else CI a) (W':=CI) fun i hi=>by simp only[if_neg (show i≠m by omega)]]
    have h4:sm (fun a=>if a=m then S else CI a) c=sm CI c:=cg fun i hi=>by simp only[if_neg (show i≠m by omega)]
    have:=h.iy;rw[h3,h4];omega
theorem Tr.congr (h:Tr N C m p u c S B0 B CI PL PI) {CI' PL' PI':Nat→Nat} (h1:∀a,a<m→CI' a=CI a) (h2:∀i,u≤i→i<N→PL' i=PL i) (h3:∀a,a<c→PI' a=PI a):Tr N C m p u c S B0 B CI' PL' PI':=by
  have hn:=h.num;constructor
  · exact hn
  · exact h.nR
  · intro i a b;rw[h2 i a b];exact h.pl i a b
  · intro a ha;rw[h3 a ha];exact h.pi a ha
  · intro i j a b d;rw[h2 i a Om,h2 j Om d];exact h.ml i j a b d
  · intro a b d e;rw[h3 a Om,h3 b e];exact h.mi a b d e
  · intro W V hW hV;exact h.w W V (fun i a b=>by rw[←h2 i a b];exact hW i a b) (fun a ha=>by rw[←h3 a ha];exact hV a ha)
  · exact h.bb
  · intro i a b;rw[h2 i a b];exact h.c1 i a b
  · intro a ha;rw[h3 a ha,h1 a Om];exact h.c2 a ha
  · exact h.c3
  · intro a b d;rw[h1 a d];exact h.c4 a b d
  · exact h.cs
  · intro a b d e;rw[h1 a Om,h1 b e];exact h.cm a b d e
  · intro a ha;rw[h1 a ha];exact h.ti a ha
  · intro i a b d e;rw[h2 i a b] at d e ⊢;rw[h3 _ d] at e ⊢;rw[h1 _ e];exact h.g1 i a b d e
  · intro a b d e;rw[h3 a b] at d e ⊢;rw[h3 _ d] at e ⊢;rw[h1 _ e,h1 a Om];exact h.g2 a b d e
  · intro i a b d;rw[h2 i a b] at d ⊢;rw[h1 _ d];exact h.q1 i a b d
  · intro a b d;rw[h3 a b] at d ⊢;rw[h1 _ d,h1 a Om];exact h.q2 a b d
  · rw[cg (W:=CI') (W':=CI) h1,cg (W:=CI') (W':=CI) fun a ha=>h1 a Om];exact h.iy
theorem Tr.fin (h:Tr N C m 0 u c S B0 B CI PL PI) (hm:m+1=N) (h1:1≤m):u=0∧c+1=m:=by
  have hn:=h.num;by_cases hc:c=m
  · have h2:=h.pi (m-1) Om;have h3:=h.num;have:=h2.2.2 rfl;omega
  · omega
end
structure KW (N m:Nat) (PL PI DI DL:Nat→Nat):Prop where
  top:DI (m-1)=0
  PV:∀a,a+1<m→DI a=DI (PI a)+1
  leaf:∀i,i<N→DL i=DI (PL i)+1
section
variable {N:Nat} {C:Nat→Nat} {m S B0 B:Nat} {CI PL PI DI DL:Nat→Nat}
theorem KW.alT (hd:KW N m PL PI DI DL) (h:Tr N C m 0 0 (m-1) S B0 B CI PL PI) (h1:1≤m):∀k a b,m-a≤k→a≤b→b<m→DI b≤DI a:=by
  intro k;induction k with
  |zero=>intro a b h2 h3 h4;omega
  |succ k ih=>
    intro a b h2 h3 h4;by_cases hb:b+1=m
    · rw[show b=m-1 by omega,hd.top];exact Nat.zero_le _
    · rw[hd.PV a Om,hd.PV b Om];have p1:=h.pi a Om;have p2:=h.pi b Om;have p3:=h.mi a b h3 Om;have:=ih (PI a) (PI b) Om p3 (p2.2.2 rfl);omega
theorem KW.mono (hd:KW N m PL PI DI DL) (h:Tr N C m 0 0 (m-1) S B0 B CI PL PI) (h1:1≤m) {i j:Nat} (Cg:i≤j) (hj:j<N):DL i≤DL j:=by
  rw[hd.leaf i Om,hd.leaf j hj];have p1:=h.ml i j (Nat.zero_le _) Cg hj;have p2:=h.pl i (Nat.zero_le _) Om;have:=hd.alT h h1 m (PL j) (PL i) Om p1 (p2.2 rfl);omega
theorem KW.inner (hd:KW N m PL PI DI DL) (h:Tr N C m 0 0 (m-1) S B0 B CI PL PI) (h1:1≤m):∀k a,DI a≤k→a<m→2^(DI a/2)*CI a≤CI (m-1):=by
  intro k;induction k using Nat.strongRecOn with
  |_ k ih=>
    intro a hk ha;by_cases e1:a+1=m
    · rw[show a=m-1 by omega,hd.top];simp
    · have d1:=hd.PV a Om;have p1:=h.pi a Om;by_cases e2:PI a+1=m
      · have d2:DI a=1:=by rw[d1,show PI a=m-1 by omega,hd.top]
        have:=h.q2 a Om (p1.2.2 rfl);rw[show PI a=m-1 by omega] at this;rw[d2];simpa using this
      · have lt:=p1.2.2 rfl;have d2:=hd.PV (PI a) Om;have p2:=h.pi (PI a) Om;have g:=h.g2 a Om Om (p2.2.2 rfl);have hi:=ih (DI (PI (PI a))) Om (PI (PI a)) (Nat.le_refl _) (p2.2.2 rfl);have e3:DI a/2=DI (PI (PI a))/2+1:=Om;rw[e3,Nat.pow_succ,Nat.mul_assoc];exact Nat.le_trans (Nat.mul_le_mul_left _ g) hi
theorem KW.low (hd:KW N m PL PI DI DL) (h:Tr N C m 0 0 (m-1) S B0 B CI PL PI) (h1:1≤m) {i:Nat} (hi:i<N):2^(DL i/2)*C i≤CI (m-1):=by
  have d1:=hd.leaf i hi;have p1:=h.pl i (Nat.zero_le _) hi;have lt:=p1.2 rfl;by_cases e2:PL i+1=m
  · have d2:DL i=1:=by rw[d1,show PL i=m-1 by omega,hd.top]
    have:=h.q1 i (Nat.zero_le _) hi lt;rw[show PL i=m-1 by omega] at this;rw[d2];simpa using this
  · have d2:=hd.PV (PL i) Om;have p2:=h.pi (PL i) Om;have g:=h.g1 i (Nat.zero_le _) hi Om (p2.2.2 rfl);have C1:=hd.inner h h1 _ (PI (PL i)) (Nat.le_refl _) (p2.2.2 rfl);have e3:DL i/2=DI (PI (PL i))/2+1:=Om;rw[e3,Nat.pow_succ,Nat.mul_assoc];exact Nat.le_trans (Nat.mul_le_mul_left _ g) C1
theorem Tr.root (h:Tr N C m 0 0 (m-1) 0 B0 B CI PL PI) (h1:1≤m):CI (m-1)=sm C N:=by
  have ht:=h.iy;have h3:sm CI m=sm CI (m-1)+CI (m-1):=by rw[show m=(m-1)+1 by omega];rfl
  simp only[sm] at ht;omega
theorem KW.iw (hd:KW N m PL PI DI DL) (h:Tr N C m 0 0 (m-1) S B0 B CI PL PI) (h1:1≤m) {L:Nat} (hL:∀i,i<N→DL i≤L) (hI:∀a,a<m→DI a≤L):sm (fun i=>2^(L-DL i)) N=2^L:=by
  have hw:=h.w (fun i=>2^(L-DL i)) (fun a=>2^(L-DI a)) (fun i _ hi=>by
    have:=hL i hi;have d:=hd.leaf i hi;show 2*2^(L-DL i)=2^(L-DI (PL i));rw[show L-DI (PL i)=(L-DL i)+1 by omega,Nat.pow_succ,Nat.mul_comm]) (fun a ha=>by
    have d:=hd.PV a Om;have:=hI a Om;show 2*2^(L-DI a)=2^(L-DI (PI a));rw[show L-DI (PI a)=(L-DI a)+1 by omega,Nat.pow_succ,Nat.mul_comm])
  have h3:sm (fun a=>2^(L-DI a)) m=sm (fun a=>2^(L-DI a)) (m-1)+2^(L-DI (m-1)):=by
    rw[show m=(m-1)+1 by omega];rfl
  rw[h3,hd.top] at hw;simp only[sm,Nat.zero_mul,Nat.sub_zero] at hw;omega
end
theorem Ih {S c L:Nat} (h:S/2^L<c) (hS:1≤S∧S≤65536) (hL:L≤12):1≤c*(4611686018427387904/S)/2^(62-L):=by
  have hp:0<2^L:=Nat.two_pow_pos _;have hq:0<2^(62-L):=Nat.two_pow_pos _;have e0:(4611686018427387904:Nat)=2^(62-L)*2^L:=by
    rw[←Nat.pow_add,show 62-L+L=62 by omega]
  have h1:S+1≤c*2^L:=by
    have:=(Nat.div_lt_iff_lt_mul hp).1 h;omega
  have h2:=Nat.div_add_mod 4611686018427387904 S;have h3:=Nat.mod_lt 4611686018427387904 (show 0<S by omega);have h4:65536≤4611686018427387904/S:=(Nat.le_div_iff_mul_le Om).2 Om;generalize jl:4611686018427387904/S=st at*;have h5:(S+1)*st≤c*2^L*st:=Nat.mul_le_mul_right _ h1;rw[Nat.add_mul,Nat.one_mul] at h5;have h6:2^(62-L)*2^L≤c*st*2^L:=by
    rw[←e0,Nat.mul_right_comm];omega
  exact(Nat.le_div_iff_mul_le hq).2 (by rw[Nat.one_mul];exact Nat.le_of_mul_le_mul_right h6 hp)
theorem KX {S c L:Nat} (h:c≤S) (hS:1≤S) (hL:L≤12):c*(4611686018427387904/S)≤4611686018427387904∧c*(4611686018427387904/S)/2^(62-L)≤2^L:=by
  have hq:0<2^(62-L):=Nat.two_pow_pos _;have e0:(4611686018427387904:Nat)=2^L*2^(62-L):=by
    rw[←Nat.pow_add,show L+(62-L)=62 by omega]
  have h1:c*(4611686018427387904/S)≤4611686018427387904:=Nat.le_trans (Nat.mul_le_mul_right _ h) (Nat.mul_div_le _ _);refine⟨h1,?_⟩;have h2:c*(4611686018427387904/S)/2^(62-L)≤4611686018427387904/2^(62-L):=Nat.div_le_div_right h1;rw[e0,Nat.mul_div_cancel _ hq] at h2;rw[←e0] at h2;exact h2
theorem C4 {cs:Nat→Nat} {k S L:Nat} (hS:sm cs k=S) (mX:0<S) (hk:k<2^L):∃i,i<k∧S/2^L<cs i:=by
  apply Classical.byContradiction;intro hn;have hle:∀i,i<k→cs i≤S/2^L:=fun i hi=>by
    rcases Nat.lt_or_ge (S/2^L) (cs i) with h|h
    · exact(hn ⟨i,hi,h⟩).elim
    · exact h
  have hb:∀n,n≤k→sm cs n≤n*(S/2^L):=by
    intro n;induction n with
    |zero=>intro _;simp[sm]
    |succ n ih=>
      intro hn';have h1:=ih Om;have h2:=hle n Om;simp only[sm];rw[Nat.add_mul,Nat.one_mul];omega
  have h1:=hb k (Nat.le_refl _);rw[hS] at h1;have hp:0<2^L:=Nat.two_pow_pos _;have h2:2^L*(S/2^L)≤S:=Nat.mul_div_le _ _;rcases Nat.eq_zero_or_pos (S/2^L) with h3|h3
  · rw[h3,Nat.mul_zero] at h1;omega
  · have h4:k*(S/2^L)<2^L*(S/2^L):=Nat.mul_lt_mul_of_pos_right hk h3;omega
theorem EY {v D t:Nat} (ht:1≤t) (hv:2≤v) (Cd:t≤2^(v-1)):(2^(v-1)-1+t*((2^v*D+(2^(v-1)-1))/t))/2^v=D:=by
  have hp:0<2^v:=Nat.two_pow_pos _;have e:2^v=2*2^(v-1):=by
    have:2^(v-1+1)=2^(v-1)*2:=Nat.pow_succ _ _;rw[show v-1+1=v by omega] at this;omega
  have h1:=Nat.div_add_mod (2^v*D+(2^(v-1)-1)) t;have h2:=Nat.mod_lt (2^v*D+(2^(v-1)-1)) (show 0<t by omega);have hp1:0<2^(v-1):=Nat.two_pow_pos _;generalize hX:t*((2^v*D+(2^(v-1)-1))/t)=X at*;rw[show 2^(v-1)-1+X=(2^(v-1)-1+X-2^v*D)+2^v*D by omega,Nat.add_mul_div_left _ _ hp,Nat.div_eq_of_lt Om];omega
abbrev oa:Nat:=4042322160
theorem wY:256<oa:=by decide
def kr (M:Nat):List Nat→Nat
  |[]=>0
  |b::bs=>2^(M-b)+kr M bs
def mF (M:Nat):List Nat→Nat
  |[]=>0
  |b::bs=>(if b=M then 1 else 0)+mF M bs
theorem Ii {bs:List Nat} {p c i:Nat} (hp:p<bs.length):(bs.set p c).getD i 0=if i=p then c else bs.getD i 0:=by
  simp only[List.getD_eq_getElem?_getD,List.getElem?_set];by_cases h:p=i
  · subst h;simp[hp]
  · rw[if_neg h,if_neg (fun e=>h e.symm)]
theorem EZ {M:Nat}:∀{bs:List Nat} {p c:Nat},p<bs.length→kr M (bs.set p c)+2^(M-bs.getD p 0)=kr M bs+2^(M-c)
  |[],p,c,h=>by simp at h
  |b::bs,0,c,_=>by simp only[List.set_cons_zero,kr,List.getD_cons_zero];omega
  |b::bs,p+1,c,h=>by
    have:=EZ (M:=M) (bs:=bs) (p:=p) (c:=c) (by simpa using h);simp only[List.set_cons_succ,kr,List.getD_cons_succ];omega
theorem x9 {M:Nat}:∀{bs:List Nat} {p c:Nat},p<bs.length→mF M (bs.set p c)+(if bs.getD p 0=M then 1 else 0)=mF M bs+(if c=M then 1 else 0)
  |[],p,c,h=>by simp at h
  |b::bs,0,c,_=>by simp only[List.set_cons_zero,mF,List.getD_cons_zero];omega
  |b::bs,p+1,c,h=>by
    have:=x9 (M:=M) (bs:=bs) (p:=p) (c:=c) (by simpa using h);simp only[List.set_cons_succ,mF,List.getD_cons_succ];omega
theorem KY {M k:Nat}:∀{bs:List Nat},(∀i,i<bs.length→bs.getD i 0=M∨bs.getD i 0+k≤M)→∃q,kr M bs=mF M bs+2^k*q
  |[],_=>⟨0,rfl⟩
  |b::bs,h=>by
    obtain⟨q,hq⟩:=KY (M:=M) (k:=k) (bs:=bs) fun i hi=>by
      have:=h (i+1) (by simpa using hi);simpa using this
    have h0:=h 0 Oi;simp only[List.getD_cons_zero] at h0;by_cases hb:b=M
    · subst hb;exact⟨q,by simp only[kr,mF,Nat.sub_self,Nat.pow_zero,if_true];omega⟩
    · have h1:b+k≤M:=h0.resolve_left hb;refine⟨2^(M-b-k)+q,?_⟩;have e:2^(M-b)=2^k*2^(M-b-k):=by rw[←Nat.pow_add];congr 1;omega
      simp only[kr,mF,if_neg hb];rw[Nat.mul_add, ←e];omega
theorem Bd {M:Nat}:∀{bs:List Nat},mF M bs≤bs.length
  |[]=>Nat.le_refl _
  |b::bs=>by have:=Bd (M:=M) (bs:=bs);simp only[mF,List.length_cons];split<;>omega
theorem ua {M:Nat}:∀{bs:List Nat},0<mF M bs→∃i,i<bs.length∧bs.getD i 0=M
  |[],h=>by simp[mF] at h
  |b::bs,h=>by
    by_cases hb:b=M
    · exact⟨0,Oi,by simpa using hb⟩
    · simp only[mF,if_neg hb,Nat.zero_add] at h;obtain⟨i,hi,he⟩:=ua h;exact⟨i+1,by simpa using hi,by simpa using he⟩
theorem E4 {M:Nat}:∀{bs:List Nat},(∀i,i<bs.length→bs.getD i 0=M)→kr M bs=bs.length
  |[],_=>rfl
  |b::bs,h=>by
    have h0:=h 0 Oi;simp only[List.getD_cons_zero] at h0;have:=E4 (M:=M) (bs:=bs) fun i hi=>by simpa using h (i+1) (by simpa using hi)
    simp only[kr,List.length_cons,h0,Nat.sub_self,Nat.pow_zero,this];omega
def Rk (M:Nat) (bs:List Nat) (k v:Nat):Prop:=
  (v=oa∧∀i,i<bs.length→bs.getD i 0+k≠M)∨(v<bs.length∧bs.getD v 0+k=M∧∀i,v<i→i<bs.length→bs.getD i 0+k≠M)
structure x' (M:Nat) (bs:List Nat) (T:Int) (rl:List Nat):Prop where
  V2:M≤11
  len:bs.length≤256∧bs.length≤2^M
  nR:∀i j,i≤j→j<bs.length→bs.getD i 0≤bs.getD j 0
  s7:∀i,i<bs.length→1≤bs.getD i 0∧bs.getD i 0≤M
  sum:(kr M bs:Int)=((2^M:Nat):Int)+T
  mm:T<(mF M bs:Int)∧ -T<(mF M bs:Int)
  ex:T<0→∃i,i<bs.length∧bs.getD i 0<M
  V3:rl.length=13
  rk:∀k,1≤k→k≤12→Rk M bs k (rl.getD k 0)
theorem x'.short {M:Nat} {bs rl:List Nat} {T:Int} (h:x' M bs T rl) (hT:0<T):∃i,i<bs.length∧bs.getD i 0<M:=by
  apply Classical.byContradiction;intro hn;have ha:∀i,i<bs.length→bs.getD i 0=M:=fun i hi=>by
    have h1:=h.s7 i hi;rcases Nat.lt_or_ge (bs.getD i 0) M with h2|h2
    · exact(hn ⟨i,hi,h2⟩).elim
    · omega
  have h1:=E4 ha;have h2:=h.sum;have h3:=h.len.2;rw[h1] at h2;omega
theorem x'.some {M:Nat} {bs rl:List Nat} {T:Int} (h:x' M bs T rl) (hT:0<T):∃k,1≤k∧k≤10∧rl.getD k 0≠oa:=by
  obtain⟨i,hi,hl⟩:=h.short hT;have h1:=h.s7 i hi;have h2:=h.V2;refine⟨M-bs.getD i 0,Om,Om,fun e=>?_⟩;rcases h.rk (M-bs.getD i 0) Om Om with ⟨_,hn⟩|⟨hv,_⟩
  · exact hn i hi Om
  · have:=h.len.1;have:=wY;rw[e] at hv;omega
theorem x'.at_ {M:Nat} {bs rl:List Nat} {T:Int} (h:x' M bs T rl) {k:Nat} (h1:1≤k) (h2:k≤12) (hk:rl.getD k 0≠oa):
    rl.getD k 0<bs.length∧bs.getD (rl.getD k 0) 0+k=M∧∀i,rl.getD k 0<i→i<bs.length→bs.getD i 0+k≠M:=by
  rcases h.rk k h1 h2 with ⟨e,_⟩|e
  · exact(hk e).elim
  · exact e
def sC (M:Nat) (bs rl:List Nat) (k p:Nat):List Nat:=
  let r1:=if rl.getD (k-1) 0=oa then rl.set (k-1) p else rl
  if p=0 then r1.set k oa else if bs.getD (p-1) 0+k=M then r1.set k (p-1) else r1.set k oa
theorem E5 (M:Nat) (bs rl:List Nat) (k p:Nat):(sC M bs rl k p).length=rl.length:=by
  unfold sC;simp only[];split<;>(try split)<;>(try split)<;>simp
theorem E6 {M:Nat} {bs rl:List Nat} {k p j:Nat} (hl:rl.length=13) (h1:1≤k) (h2:k≤12):(sC M bs rl k p).getD j 0=
    if j=k then (if p=0 then oa else if bs.getD (p-1) 0+k=M then p-1 else oa) else if j=k-1∧rl.getD (k-1) 0=oa then p else rl.getD j 0:=by
  unfold sC;simp only[];by_cases hr:rl.getD (k-1) 0=oa
  · simp only[hr,if_true,and_true];have e8:∀v,((rl.set (k-1) p).set k v).getD j 0=if j=k then v else if j=k-1 then p else rl.getD j 0:=fun v=>by
      rw[Ii Oz,Ii Om]
    split
    · rw[e8]
    · split<;>rw[e8]
  · simp only[hr,if_false,and_false];have e8:∀v,(rl.set k v).getD j 0=if j=k then v else rl.getD j 0:=fun v=>by rw[Ii Om]
    split
    · rw[e8]
    · split<;>rw[e8]
theorem x'.step {M:Nat} {bs rl:List Nat} {T:Int} (h:x' M bs T rl) (hT:0<T) {k:Nat} (h1:1≤k) (h2:k≤12) (hk:rl.getD k 0≠oa)
    (hc:((2^(k-1):Nat):Int)≤T∨(T<((2^(k-1):Nat):Int)∧∀j,1≤j→j<k→rl.getD j 0=oa)):
    x' M (bs.set (rl.getD k 0) (M-k+1)) (T-((2^(k-1):Nat):Int)) (sC M bs rl k (rl.getD k 0)):=by
  obtain⟨hp,hb,lV⟩:=h.at_ h1 h2 hk;generalize hpe:rl.getD k 0=p at*;have hbp:=h.s7 p hp;have hkM:k<M:=Om;have e8:∀i,(bs.set p (M-k+1)).getD i 0=if i=p then M-k+1 else bs.getD i 0:=fun i=>Ii hp
  have hlen:(bs.set p (M-k+1)).length=bs.length:=List.length_set;have e1:2^(M-bs.getD p 0)=2^k:=by congr 1;omega
  have e2:2^(M-(M-k+1))=2^(k-1):=by congr 1;omega
  have e3:2^k=2*2^(k-1):=by rw[show k=(k-1)+1 by omega,Nat.pow_succ];simp;omega
  have hkr:=EZ (M:=M) (c:=M-k+1) hp;have Ij:=x9 (M:=M) (c:=M-k+1) hp;rw[e1,e2] at hkr;rw[if_neg Om] at Ij;have hs:=h.sum;have hm:=h.mm;have mX:0<2^(k-1):=Nat.two_pow_pos _;refine⟨h.V2,by rw[hlen];exact h.len,?_,?_,Om,?_,?_,by rw[E5];exact h.V3,?_⟩
  · intro i j Cg hj;rw[hlen] at hj;rw[e8,e8];have Ee:=h.nR i j Cg hj;split
    · split
      · exact Nat.le_refl _
      · rename_i hi hjp;subst hi;have:=lV j Om hj;omega
    · split
      · rename_i hi hjp;subst hjp;omega
      · exact Ee
  · intro i hi;rw[hlen] at hi;rw[e8];split
    · omega
    · exact h.s7 i hi
  · -- the number of those of M bits stays above the debt, and pays what is too much
    rcases hc with hc|⟨hc,qh⟩
    · by_cases zc:k=1
      · subst zc;rw[if_pos Om] at Ij;simp at Ij ⊢;omega
      · rw[if_neg Om] at Ij;omega
    · have tj:∀i,i<bs.length→bs.getD i 0=M∨bs.getD i 0+k≤M:=fun i hi=>by
        have hr:=h.s7 i hi;rcases Nat.lt_or_ge M (bs.getD i 0+k) with h3|h3
        · rcases Nat.lt_or_ge (bs.getD i 0) M with h4|h4
          · exfalso
            rcases h.rk (M-bs.getD i 0) Om Om with ⟨_,hn⟩|⟨hv,_⟩
            · exact hn i hi Om
            · rw[qh _ Om Om] at hv;have:=h.len.1;have:=wY;omega
          · left;omega
        · right;exact h3
      obtain⟨q,hq⟩:=KY tj;have zc:k≠1:=by
        intro e;subst e;simp at hc;omega
      rw[if_neg Om] at Ij
      -- cntB = T mod 2^k, and more than T
      have hMk:2^M=2^k*2^(M-k):=by rw[←Nat.pow_add];congr 1;omega
      have wq:T+((2^k:Nat):Int)≤(mF M bs:Int):=by
        have e4:(mF M bs:Int)-T=((2^k:Nat):Int)*(((2^(M-k):Nat):Int)-(q:Int)):=by
          rw[Int.mul_sub, ←Int.natCast_mul, ←Int.natCast_mul, ←hMk];omega
        have h5:0<(((2^(M-k):Nat):Int)-(q:Int)):=by
          apply Classical.byContradiction;intro hn;have h6:((2^k:Nat):Int)*(((2^(M-k):Nat):Int)-(q:Int))≤0:=Int.mul_nonpos_of_nonneg_of_nonpos (Int.natCast_nonneg _) Om;omega
        have h7:((2^k:Nat):Int)*1≤((2^k:Nat):Int)*(((2^(M-k):Nat):Int)-(q:Int)):=Int.mul_le_mul_of_nonneg_left Om (Int.natCast_nonneg _);omega
      omega
  · intro alU;refine⟨p,by rw[hlen];exact hp,?_⟩;rw[e8,if_pos rfl];have zc:k≠1:=by
      intro e;subst e;simp at alU;omega
    omega
  · intro j hj1 hj2;rw[E6 h.V3 h1 h2];by_cases Ju:j=k
    · subst Ju;rw[if_pos rfl];by_cases hp0:p=0
      · rw[if_pos hp0];left;refine⟨rfl,fun i hi=>?_⟩;rw[hlen] at hi;rw[e8];split
        · omega
        · exact lV i Om hi
      · rw[if_neg hp0];by_cases hq:bs.getD (p-1) 0+j=M
        · rw[if_pos hq];right;refine⟨by rw[hlen];omega,by rw[e8,if_neg Om];exact hq,fun i Rv C1=>?_⟩;rw[hlen] at C1;rw[e8];split
          · omega
          · exact lV i Om C1
        · rw[if_neg hq];left;refine⟨rfl,fun i hi=>?_⟩;rw[hlen] at hi;rw[e8];split
          · omega
          · rename_i hip;rcases Nat.lt_or_ge p i with h3|h3
            · exact lV i h3 hi
            · have s1:=h.nR i (p-1) Om Om;have s2:=h.nR (p-1) p Om hp;omega
    · rw[if_neg Ju];by_cases hj:j=k-1∧rl.getD (k-1) 0=oa
      · rw[if_pos hj];obtain⟨hj3,hj4⟩:=hj;subst hj3;right;refine⟨by rw[hlen];exact hp,by rw[e8,if_pos rfl];omega,fun i Rv C1=>?_⟩;rw[hlen] at C1;rw[e8,if_neg Om];rcases h.rk (k-1) hj1 hj2 with ⟨_,hn⟩|⟨hv,_⟩
        · exact hn i C1
        · rw[hj4] at hv;have:=h.len.1;have:=wY;omega
      · rw[if_neg hj];rcases h.rk j hj1 hj2 with ⟨hv,hn⟩|⟨hv,hve,hvl⟩
        · left;refine⟨hv,fun i hi=>?_⟩;rw[hlen] at hi;rw[e8];split
          · intro e;exact hj ⟨Om,by rw[show k-1=j by omega];exact hv⟩
          · exact hn i hi
        · right;have hvp:rl.getD j 0≠p:=fun e=>by rw[e] at hve;omega
          refine⟨by rw[hlen];exact hv,by rw[e8,if_neg hvp];exact hve,fun i Rv C1=>?_⟩;rw[hlen] at C1;rw[e8];split
          · rename_i hip;intro e
            -- then j = k - 1, and its last place lies behind p
            have aCY:j=k-1:=Om;have s1:=h.nR (rl.getD j 0) p Om hp;omega
          · exact hvl i Rv C1
structure yb (M:Nat) (bs:List Nat) (T:Int) (v n:Nat):Prop where
  V2:M≤11
  len:bs.length≤256∧bs.length≤2^M
  nR:∀i j,i≤j→j<bs.length→bs.getD i 0≤bs.getD j 0
  s7:∀i,i<bs.length→1≤bs.getD i 0∧bs.getD i 0≤M
  sum:(kr M bs:Int)=((2^M:Nat):Int)+T
  T0:T≤0
  mm: -T<(mF M bs:Int)
  ex:T<0→∃i,i<bs.length∧bs.getD i 0<M
  rk:Rk M bs 1 v
  nn:v=oa→n<bs.length∧∀i,n<i→i<bs.length→bs.getD i 0=M
theorem x'.pay {M n:Nat} {bs rl:List Nat} {T:Int} (h:x' M bs T rl) (hT:T≤0) (hn:n<bs.length∧∀i,n<i→i<bs.length→bs.getD i 0=M):yb M bs T (rl.getD 1 0) n:=
  ⟨h.V2,h.len,h.nR,h.s7,h.sum,hT,h.mm.2,h.ex,h.rk 1 Om Om,fun _=>hn⟩
theorem yb.put {M v n q:Nat} {bs:List Nat} {T:Int} (h:yb M bs T v n) (hT:T<0) (hq:q<bs.length) (hM:bs.getD q 0=M) (hl:∀i,i<q→bs.getD i 0<M) (n':Nat):yb M (bs.set q (M-1)) (T+1) q n':=by
  obtain⟨i0,hi0,AN⟩:=h.ex hT;have h0:=h.s7 i0 hi0;have e8:∀i,(bs.set q (M-1)).getD i 0=if i=q then M-1 else bs.getD i 0:=fun i=>Ii hq
  have hlen:(bs.set q (M-1)).length=bs.length:=List.length_set;have hkr:=EZ (M:=M) (c:=M-1) hq;have Ij:=x9 (M:=M) (c:=M-1) hq;have e2:2^(M-(M-1))=2:=by rw[show M-(M-1)=1 by omega]
  rw[hM,Nat.sub_self,e2] at hkr;rw[if_pos hM,if_neg Om] at Ij;have hs:=h.sum;have hm:=h.mm;refine⟨h.V2,by rw[hlen];exact h.len,?_,?_,by simp at hkr;omega,Om,Om,?_,?_,?_⟩
  · intro i j Cg hj;rw[hlen] at hj;rw[e8,e8];have Ee:=h.nR i j Cg hj;split
    · split
      · exact Nat.le_refl _
      · rename_i hi hjq;subst hi;have:=h.nR i j Cg hj;omega
    · split
      · rename_i hi hjq;subst hjq;have:=hl i Om;omega
      · exact Ee
  · intro i hi;rw[hlen] at hi;rw[e8];split
    · omega
    · exact h.s7 i hi
  · intro _;exact⟨q,by rw[hlen];exact hq,by rw[e8,if_pos rfl];omega⟩
  · right;refine⟨by rw[hlen];exact hq,by rw[e8,if_pos rfl];omega,fun i Rv C1=>?_⟩;rw[hlen] at C1;rw[e8,if_neg Om];have:=h.nR q i Om C1;omega
  · intro e;have:=h.len.1;have:=wY;omega
theorem yb.next {M v n:Nat} {bs:List Nat} {T:Int} (h:yb M bs T v n) (hT:T<0) (hv:v≠oa):v+1<bs.length∧bs.getD (v+1) 0=M∧∀i,i<v+1→bs.getD i 0<M:=by
  rcases h.rk with ⟨e,_⟩|⟨h1,h2,h3⟩
  · exact(hv e).elim
  · have hm:=h.mm;obtain⟨i,hi,he⟩:=ua (M:=M) (bs:=bs) Om;have h4:v<i:=by
      rcases Nat.lt_or_ge v i with h5|h5
      · exact h5
      · have:=h.nR i v h5 h1;omega
    have h5:=h.nR v (v+1) Om Om;have h6:=h3 (v+1) Om Om;have h7:=h.s7 (v+1) Om;refine⟨Om,Om,fun j hj=>?_⟩;have:=h.nR j v Om h1;omega
theorem yb.first {M v n n':Nat} {bs:List Nat} {T:Int} (h:yb M bs T v n) (hT:T<0) (h1:n'<bs.length) (h2:bs.getD n' 0≠M) (h3:∀i,n'<i→i<bs.length→bs.getD i 0=M):n'+1<bs.length∧bs.getD (n'+1) 0=M∧∀i,i<n'+1→bs.getD i 0<M:=by
  have hm:=h.mm;obtain⟨i,hi,he⟩:=ua (M:=M) (bs:=bs) Om;have hr:=h.s7 n' h1;have h4:n'<i:=by
    rcases Nat.lt_or_ge n' i with h5|h5
    · exact h5
    · have:=h.nR i n' h5 h1;omega
  refine⟨Om,h3 _ Om Om,fun j hj=>?_⟩;have:=h.nR j n' Om h1;omega
theorem lB {W:Nat→Nat}:∀{n:Nat},sm W (n+1)=W 0+sm (fun i=>W (i+1)) n
  |0=>by simp[sm]
  |n+1=>by
    have:=lB (W:=W) (n:=n);show sm W (n+1)+W (n+1)=_;rw[this];simp only[sm];omega
theorem vt {W:Nat→Nat} {a:Nat}:∀{b:Nat},sm W (a+b)=sm W a+sm (fun j=>W (a+j)) b
  |0=>by simp[sm]
  |b+1=>by
    show sm W (a+b)+W (a+b)=_;rw[vt (b:=b)];simp only[sm];omega
theorem wZ {V W:Nat→Nat}:∀{n:Nat},sm (fun i=>V i+W i) n=sm V n+sm W n
  |0=>rfl
  |n+1=>by simp only[sm];rw[wZ (n:=n)];omega
theorem Be {W:Nat→Nat} {k:Nat}:∀{n:Nat},sm (fun i=>k*W i) n=k*sm W n
  |0=>by simp[sm]
  |n+1=>by simp only[sm];rw[Be (n:=n),Nat.mul_add]
theorem gP {k:Nat}:∀{n:Nat},sm (fun _=>k) n=n*k
  |0=>by simp[sm]
  |n+1=>by simp only[sm];rw[gP (n:=n),Nat.add_mul];omega
theorem KZ {W:Nat→Nat} {n:Nat} (hn:0<n) (h:∀i,i<n→0<W i):0<sm W n:=by
  cases n with
  |zero=>omega
  |succ n=>simp only[sm];have:=h n Om;omega
theorem GV {V W:Nat→Nat}:∀{n:Nat},(∀i,i<n→V i≤W i)→sm V n≤sm W n
  |0,_=>Nat.le_refl _
  |n+1,h=>by
    have h1:=GV (V:=V) (W:=W) (n:=n) fun i hi=>h i Om
    have h2:=h n Om;simp only[sm];omega
theorem K4 {M:Nat}:∀{bs:List Nat},kr M bs=sm (fun i=>2^(M-bs.getD i 0)) bs.length
  |[]=>rfl
  |b::bs=>by
    rw[List.length_cons,lB];simp only[kr,List.getD_cons_zero,List.getD_cons_succ];rw[K4 (bs:=bs)]
theorem GW {M:Nat}:∀{bs:List Nat},mF M bs=sm (fun i=>if bs.getD i 0=M then 1 else 0) bs.length
  |[]=>rfl
  |b::bs=>by
    rw[List.length_cons,lB];simp only[mF,List.getD_cons_zero,List.getD_cons_succ];rw[GW (bs:=bs)]
theorem V4 {M L N n:Nat} {b0:Nat→Nat} {bs:List Nat} (V5:M<L) (hn:n+1<N) (h1:∀i,i≤n→b0 i≤M) (h2:∀i,n<i→i<N→M<b0 i∧b0 i≤L) (hk:sm (fun i=>2^(L-b0 i)) N=2^L)
    (hlen:bs.length=N) (hb:∀i,i<N→bs.getD i 0=if i≤n then b0 i else M):
    ∃T,sm (fun j=>2^(L-M)-2^(L-b0 (n+1+j))) (N-1-n)=T*2^(L-M)∧1≤T∧kr M bs=2^M+T∧T<mF M bs:=by
  have hN:N=(n+1)+(N-1-n):=Om;have e1:2^(L-M)*kr M bs=sm (fun i=>2^(L-b0 i)) (n+1)+(N-1-n)*2^(L-M):=by
    rw[K4, ←Be,hlen];rw[show sm (fun i=>2^(L-M)*2^(M-bs.getD i 0)) N=sm (fun i=>2^(L-M)*2^(M-bs.getD i 0)) ((n+1)+(N-1-n)) by rw[←hN],vt];congr 1
    · apply cg;intro i hi;rw[hb i Om,if_pos Om, ←Nat.pow_add];congr 1;have:=h1 i Om;omega
    · rw[←gP (k:=2^(L-M))];apply cg;intro j hj;show 2^(L-M)*2^(M-bs.getD (n+1+j) 0)=_;rw[hb _ Om,if_neg Om,Nat.sub_self,Nat.pow_zero,Nat.mul_one]
  have e2:sm (fun i=>2^(L-b0 i)) (n+1)+sm (fun j=>2^(L-b0 (n+1+j))) (N-1-n)=2^L:=by
    rw[←hk]
    conv=>rhs;rw[hN]
    exact(vt (a:=n+1)).symm
  have e3:sm (fun j=>2^(L-M)-2^(L-b0 (n+1+j))) (N-1-n)+sm (fun j=>2^(L-b0 (n+1+j))) (N-1-n)=(N-1-n)*2^(L-M):=by
    rw[←wZ, ←gP (k:=2^(L-M))];apply cg;intro j hj;have:=h2 (n+1+j) Om Om;have h3:2^(L-b0 (n+1+j))≤2^(L-M):=Nat.pow_le_pow_right Om Om;show 2^(L-M)-2^(L-b0 (n+1+j))+2^(L-b0 (n+1+j))=2^(L-M);omega
  have e4:2^L=2^(L-M)*2^M:=by rw[←Nat.pow_add];congr 1;omega
  have hp:0<2^(L-M):=Nat.two_pow_pos _;have e5:2^(L-M)*kr M bs=2^(L-M)*2^M+sm (fun j=>2^(L-M)-2^(L-b0 (n+1+j))) (N-1-n):=Om;have wq:2^M≤kr M bs:=by
    apply Nat.le_of_mul_le_mul_left _ hp;omega
  refine⟨kr M bs-2^M,?_,?_,Om,?_⟩
  · rw[Nat.mul_comm,Nat.mul_sub];omega
  · apply Nat.pos_of_ne_zero;intro h0;have e6:kr M bs=2^M:=Om;rw[e6] at e5;have:0<sm (fun j=>2^(L-M)-2^(L-b0 (n+1+j))) (N-1-n):=by
      apply KZ Om;intro j hj;have:=h2 (n+1+j) Om Om;have h3:2^(L-b0 (n+1+j))<2^(L-M):=Nat.pow_lt_pow_right Om Om;show 0<2^(L-M)-2^(L-b0 (n+1+j));omega
    omega
  · have hc:N-1-n≤mF M bs:=by
      rw[GW,hlen]
      conv=>rhs;rw[hN]
      rw[vt (a:=n+1)];have:sm (fun j=>if bs.getD (n+1+j) 0=M then 1 else 0) (N-1-n)=N-1-n:=by
        rw[show sm (fun j=>if bs.getD (n+1+j) 0=M then 1 else 0) (N-1-n)=sm (fun _=>1) (N-1-n) from cg fun j hj=>by rw[if_pos (by rw[hb _ Om,if_neg Om])],gP,Nat.mul_one]
      omega
    have hs:0<sm (fun j=>2^(L-b0 (n+1+j))) (N-1-n):=KZ Om fun j _=>Nat.two_pow_pos _
    have:2^(L-M)*(kr M bs-2^M)<2^(L-M)*(N-1-n):=by
      rw[Nat.mul_sub,Nat.mul_comm (2^(L-M)) (N-1-n)];omega
    have:=Nat.lt_of_mul_lt_mul_left this;omega
def ct (P:Nat→Bool):Nat→Nat
  |0=>0
  |n+1=>ct P n+(bif P n then 1 else 0)
theorem Bf {P:Nat→Bool}:∀{m n:Nat},m≤n→ct P m≤ct P n
  |m,0,h=>by rw[Nat.le_zero.1 h];exact Nat.le_refl _
  |m,n+1,h=>by
    rcases Nat.lt_or_ge m (n+1) with h1|h1
    · have:=Bf (P:=P) (m:=m) (n:=n) Om;simp only[ct];omega
    · rw[show m=n+1 by omega];exact Nat.le_refl _
theorem adP {P:Nat→Bool} {m n:Nat} (h:m<n) (hP:P m=true):ct P m<ct P n:=by
  have:=Bf (P:=P) (m:=m+1) (n:=n) h;simp only[ct,hP,cond_true] at this;omega
theorem Rw {m n:Nat} (h:m≤n):Nat.ble m n=true:=Nat.ble_eq_true_of_le h
theorem K5 {m n:Nat} (h:n<m):Nat.ble m n=false:=by
  cases e:Nat.ble m n with
  |true=>have:=Nat.le_of_ble_eq_true e;omega
  |false=>rfl
theorem V6 {m n:Nat} (h:m=n):Nat.beq m n=true:=by subst h;exact Nat.beq_refl m
theorem Ik {m n:Nat} (h:m≠n):Nat.beq m n=false:=by
  cases e:Nat.beq m n with
  |true=>exact(h (Nat.eq_of_beq_eq_true e)).elim
  |false=>rfl
def bk (h:Nat→Nat) (len r:Nat):Nat:=ct (fun x=>Nat.ble (r+1) (h x)) len
def lO (h:Nat→Nat) (r n:Nat):Nat:=ct (fun x=>Nat.beq (h x) r) n
theorem GX {P:Nat→Bool}:∀{n:Nat},ct P n≤n
  |0=>Nat.le_refl _
  |n+1=>by have:=GX (P:=P) (n:=n);simp only[ct];cases P n<;>simp<;>omega
theorem qV (h:Nat→Nat) (r:Nat):∀len:Nat,bk h len (r+1)+lO h (r+1) len=bk h len r
  |0=>rfl
  |n+1=>by
    have:=qV h r n;simp only[bk,lO,ct] at this ⊢;rcases Nat.lt_trichotomy (h n) (r+1) with h1|h1|h1
    · rw[show Nat.ble (r+1+1) (h n)=false from K5 Om,show Nat.beq (h n) (r+1)=false from Ik Om,show Nat.ble (r+1) (h n)=false from K5 Om];simpa using this
    · rw[show Nat.ble (r+1+1) (h n)=false from K5 Om,show Nat.beq (h n) (r+1)=true from V6 Om,show Nat.ble (r+1) (h n)=true from Rw Om];simp at this ⊢;omega
    · rw[show Nat.ble (r+1+1) (h n)=true from Rw Om,show Nat.beq (h n) (r+1)=false from Ik Om,show Nat.ble (r+1) (h n)=true from Rw Om];simp at this ⊢;omega
theorem o9 (h:Nat→Nat):∀len:Nat,bk h len 0+lO h 0 len=len
  |0=>rfl
  |n+1=>by
    have:=o9 h n;simp only[bk,lO,ct] at this ⊢;rcases Nat.eq_zero_or_pos (h n) with h1|h1
    · rw[show Nat.ble (0+1) (h n)=false from K5 Om,show Nat.beq (h n) 0=true from V6 Om];simp at this ⊢;omega
    · rw[show Nat.ble (0+1) (h n)=true from Rw Om,show Nat.beq (h n) 0=false from Ik Om];simp at this ⊢;omega
structure HS (len:Nat) (c h:Nat→Nat) (n:Nat) (Z:Nat→Nat × Nat):Prop where
  Bg:∀x,x<n→∃i,bk h len (h x)≤i∧i<bk h len (h x)+lO h (h x) n∧Z i=(c x,x)
  out:∀r i,bk h len r≤i→i<bk h len r+lO h r n→∃x,x<n∧h x=r∧Z i=(c x,x)
  nR:∀r i j,bk h len r≤i→i≤j→j<bk h len r+lO h r n→(Z j).1≤(Z i).1
theorem HS.begin (len:Nat) (c h:Nat→Nat) (Z:Nat→Nat × Nat):HS len c h 0 Z:=⟨fun x hx=>Om,fun r i h1 h2=>by simp[lO,ct] at h2;omega,fun r i j h1 h2 h3=>by simp[lO,ct] at h3;omega⟩
theorem C5 {h:Nat→Nat} {n len:Nat} (hn:n<len):lO h (h n) n<lO h (h n) len:=adP hn Oi
theorem GY {h:Nat→Nat} {len:Nat}:∀{r s:Nat},r≤s→bk h len s≤bk h len r
  |r,0,K6=>by rw[Nat.le_zero.1 K6];exact Nat.le_refl _
  |r,s+1,K6=>by
    rcases Nat.lt_or_ge r (s+1) with h1|h1
    · have h2:=GY (h:=h) (len:=len) (r:=r) (s:=s) Om;have h3:=qV h s len;omega
    · rw[show r=s+1 by omega];exact Nat.le_refl _
theorem ub {h:Nat→Nat} {len r s:Nat} (K6:r<s):bk h len s+lO h s len≤bk h len r:=by
  obtain⟨k,rfl⟩:∃k,s=k+1:=⟨s-1,Om⟩;rw[qV h k len];exact GY Om
theorem HS.put {len n p:Nat} {c h:Nat→Nat} {Z Z':Nat→Nat × Nat} (H:HS len c h n Z) (hn:n<len) (hp:bk h len (h n)≤p∧p≤bk h len (h n)+lO h (h n) n)
    (qh:p=bk h len (h n)∨c n≤(Z (p-1)).1) (adQ:∀i,p≤i→i<bk h len (h n)+lO h (h n) n→(Z i).1<c n)
    (z1:∀i,i<p→Z' i=Z i) (z2:Z' p=(c n,n)) (z3:∀i,p≤i→i<bk h len (h n)+lO h (h n) n→Z' (i+1)=Z i) (z4:∀i,bk h len (h n)+lO h (h n) n<i→Z' i=Z i):HS len c h (n+1) Z':=by
  have kt:=C5 (h:=h) hn;have ks:lO h (h n) (n+1)=lO h (h n) n+1:=by simp[lO,ct]
  have hot:∀r,r≠h n→lO h r (n+1)=lO h r n:=fun r hr=>by
    simp only[lO,ct];rw[show Nat.beq (h n) r=false from Ik (fun e=>hr e.symm)];simp
  have hle:∀r,lO h r n≤lO h r len:=fun r=>Bf Om
  -- other buckets are left as they are
  have GZ:∀r,r≠h n→∀i,bk h len r≤i→i<bk h len r+lO h r n→Z' i=Z i:=fun r hr i h1 h2=>by
    have h3:=hle r;rcases Nat.lt_or_gt_of_ne hr with h4|h4
    · have:=ub (h:=h) (len:=len) h4;exact z4 i Om
    · have:=ub (h:=h) (len:=len) h4;exact z1 i Om
  refine⟨fun x hx=>?_,fun r i h1 h2=>?_,fun r i j h1 h2 h3=>?_⟩
  · by_cases e:x=n
    · subst e;exact⟨p,hp.1,Om,z2⟩
    · obtain⟨i,i1,i2,i3⟩:=H.Bg x Om;by_cases er:h x=h n
      · rw[er] at i1 i2 ⊢;rcases Nat.lt_or_ge i p with h5|h5
        · exact⟨i,i1,Om,by rw[z1 i h5];exact i3⟩
        · exact⟨i+1,Om,Om,by rw[z3 i h5 i2];exact i3⟩
      · exact⟨i,i1,by rw[hot _ er];exact i2,by rw[GZ _ er i i1 i2];exact i3⟩
  · by_cases er:r=h n
    · subst er;rw[ks] at h2;rcases Nat.lt_trichotomy i p with h5|h5|h5
      · obtain⟨x,x1,x2,x3⟩:=H.out (h n) i h1 Om;exact⟨x,Om,x2,by rw[z1 i h5];exact x3⟩
      · subst h5;exact⟨n,Om,rfl,z2⟩
      · obtain⟨k,rfl⟩:∃k,i=k+1:=⟨i-1,Om⟩;obtain⟨x,x1,x2,x3⟩:=H.out (h n) k Om Om;exact⟨x,Om,x2,by rw[z3 k Om Om];exact x3⟩
    · rw[hot r er] at h2;obtain⟨x,x1,x2,x3⟩:=H.out r i h1 h2;exact⟨x,Om,x2,by rw[GZ r er i h1 h2];exact x3⟩
  · by_cases er:r=h n
    · subst er;rw[ks] at h3
      -- the new one and what was there
      have key:∀i,bk h len (h n)≤i→i<bk h len (h n)+lO h (h n) n+1→(i<p∧Z' i=Z i)∨(i=p∧Z' i=(c n,n))∨(p<i∧Z' i=Z (i-1)):=fun i a b=>by
        rcases Nat.lt_trichotomy i p with h5|h5|h5
        · exact .inl ⟨h5,z1 i h5⟩
        · subst h5;exact .inr (.inl ⟨rfl,z2⟩)
        · refine .inr (.inr ⟨h5,?_⟩);have:=z3 (i-1) Om Om;rwa [show i-1+1=i by omega] at this
      rcases key i h1 Om with ⟨a,ea⟩|⟨a,ea⟩|⟨a,ea⟩<;>rcases key j Om Om with ⟨b,eb⟩|⟨b,eb⟩|⟨b,eb⟩<;>rw[ea,eb]
      · exact H.nR (h n) i j h1 h2 Om
      · rcases qh with qh|qh
        · omega
        · exact Nat.le_trans qh (H.nR (h n) i (p-1) h1 Om Om)
      · exact H.nR (h n) i (j-1) h1 Om Om
      · omega
      · exact Nat.le_refl _
      · exact Nat.le_of_lt (adQ (j-1) Om Om)
      · omega
      · omega
      · exact H.nR (h n) (i-1) (j-1) Om Om Om
    · rw[hot r er] at h3;rw[GZ r er i h1 Om,GZ r er j Om h3];exact H.nR r i j h1 h2 h3
theorem Bh {h:Nat→Nat} {len R:Nat} (hR:bk h len R=0) {i:Nat} (hi:i<len):∃r,bk h len r≤i∧i<bk h len r+lO h r len:=by
  have:∀k r,r+k=R→(r=0∨i<bk h len (r-1))→∃r,bk h len r≤i∧i<bk h len r+lO h r len:=by
    intro k;induction k with
    |zero=>
      intro r hr fg;refine⟨r,by rw[show r=R by omega,hR];exact Nat.zero_le _,?_⟩;rcases fg with h0|h0
      · have:=o9 h len;rw[h0];omega
      · have:=qV h (r-1) len;by_cases e:r=0
        · have:=o9 h len;rw[e];omega
        · rw[show r-1+1=r by omega] at this;omega
    |succ k ih=>
      intro r hr fg;rcases Nat.lt_or_ge i (bk h len r) with h1|h1
      · exact ih (r+1) Om (.inr (by simpa using h1))
      · refine⟨r,h1,?_⟩;rcases fg with h0|h0
        · have:=o9 h len;rw[h0];omega
        · have:=qV h (r-1) len;by_cases e:r=0
          · have:=o9 h len;rw[e];omega
          · rw[show r-1+1=r by omega] at this;omega
  exact this R 0 Om (.inl rfl)
theorem HS.fin {len R:Nat} {c h:Nat→Nat} {Z:Nat→Nat × Nat} (H:HS len c h len Z) (hR:bk h len R=0) (hc:∀x y,x<len→y<len→h x<h y→c x≤c y):
    (∀i,i<len→∃x,x<len∧Z i=(c x,x))∧(∀x,x<len→∃i,i<len∧Z i=(c x,x))∧(∀i j,i≤j→j<len→(Z j).1≤(Z i).1):=by
  refine⟨fun i hi=>?_,fun x hx=>?_,fun i j Cg hj=>?_⟩
  · obtain⟨r,r1,r2⟩:=Bh hR hi;obtain⟨x,x1,_,x3⟩:=H.out r i r1 r2;exact⟨x,x1,x3⟩
  · obtain⟨i,i1,i2,i3⟩:=H.Bg x hx;refine⟨i,?_,i3⟩;have h1:=o9 h len;by_cases e:h x=0
    · rw[e] at i2;omega
    · have h2:=ub (h:=h) (len:=len) (r:=0) (s:=h x) Om;omega
  · obtain⟨r,r1,r2⟩:=Bh hR (show i<len by omega);obtain⟨s,s1,s2⟩:=Bh hR hj;rcases Nat.lt_trichotomy r s with h1|h1|h1
    · have:=ub (h:=h) (len:=len) h1;omega
    · subst h1;exact H.nR r i j r1 Cg s2
    · obtain⟨x,x1,x2,x3⟩:=H.out r i r1 r2;obtain⟨y,y1,y2,y3⟩:=H.out s j s1 s2;rw[x3,y3];exact hc y x y1 x1 Om
theorem Bi {W:Nat→Nat} {j v:Nat}:∀{n:Nat},j<n→sm (fun i=>if i=j then v else W i) n+W j=sm W n+v
  |0,h=>by omega
  |n+1,h=>by
    by_cases e:j=n
    · subst e;simp only[sm,if_true];rw[cg (W:=fun i=>if i=j then v else W i) (W':=W) fun i hi=>by simp only[if_neg (show i≠j by omega)]];omega
    · have:=Bi (W:=W) (j:=j) (v:=v) (n:=n) Om;simp only[sm,if_neg (show n≠j from fun h=>e h.symm)];omega
theorem yc {v:Nat}:∀{n:Nat},v<n→sm (fun x=>if x=v then 1 else 0) n=1
  |0,h=>by omega
  |n+1,h=>by
    by_cases e:v=n
    · subst e;simp only[sm,if_true];rw[cg (W:=fun x=>if x=v then 1 else 0) (W':=fun _=>0) fun i hi=>by simp only[if_neg (show i≠v by omega)],gP];omega
    · have:=yc (v:=v) (n:=n) Om;simp only[sm,if_neg (show n≠v from fun h=>e h.symm)];omega
theorem G0 {W:Nat→Nat}:∀{n:Nat},sm W n≠0→∃i,i<n∧W i≠0
  |0,h=>(h rfl).elim
  |n+1,h=>by
    by_cases e:W n=0
    · obtain⟨i,hi,hw⟩:=G0 (W:=W) (n:=n) (by simp only[sm] at h;omega);exact⟨i,Om,hw⟩
    · exact⟨n,Om,e⟩
theorem Bj:∀{n:Nat} {g:Nat→Nat},(∀i,i<n→g i<n)→(∀i j,i<n→j<n→g i=g j→i=j)→∀W:Nat→Nat,sm (fun i=>W (g i)) n=sm W n
  |0,_,_,_,_=>rfl
  |n+1,g,hg,hi,W=>by
    have hv:=hg n Om;by_cases hj:∃j,j<n∧g j=n
    · obtain⟨j,hjn,hjg⟩:=hj
      -- j and n change their places
      have hvn:g n≠n:=fun e=>by have:=hi j n Om Om (by rw[hjg,e]);omega
      have ih:=Bj (n:=n) (g:=fun i=>if i=j then g n else g i) (fun i ks=>by
        show(if i=j then g n else g i)<n;split
        · omega
        · rename_i uY;have h1:=hg i Om;have:g i≠n:=fun e=>uY (hi i j Om Om (by rw[e,hjg]))
          omega) (fun a b ha hb Ch=>by
        change (if a=j then g n else g a)=(if b=j then g n else g b) at Ch
        by_cases ea:a=j
        · by_cases eb:b=j
          · omega
          · rw[if_pos ea,if_neg eb] at Ch;have:=hi n b Om Om Ch;omega
        · by_cases eb:b=j
          · rw[if_neg ea,if_pos eb] at Ch;have:=hi a n Om Om Ch;omega
          · rw[if_neg ea,if_neg eb] at Ch;exact hi a b Om Om Ch) W
      have hu:=Bi (W:=fun i=>W (g i)) (j:=j) (v:=W (g n)) (n:=n) hjn;have hc:sm (fun i=>W (if i=j then g n else g i)) n=sm (fun i=>if i=j then W (g n) else W (g i)) n:=cg fun i _=>by split<;>rfl
      simp only[sm];rw[hc] at ih;simp only[hjg] at hu;omega
    · have V7:∀i,i<n→g i<n:=fun i ks=>by
        have h1:=hg i Om;have:g i≠n:=fun e=>hj ⟨i,ks,e⟩
        omega
      have ih:=Bj (n:=n) (g:=g) V7 (fun a b ha hb=>hi a b Om Om);have hvn:g n=n:=by
        apply Classical.byContradiction;intro uY;have h1:=ih fun x=>if x=g n then 1 else 0
        rw[yc (show g n<n by omega)] at h1;obtain⟨i,ks,hw⟩:=G0 (n:=n) (W:=fun i=>if g i=g n then 1 else 0) (by rw[h1];omega);have e:g i=g n:=by
          apply Classical.byContradiction;intro he;exact hw (if_neg he)
        have:=hi i n Om Om e;omega
      simp only[sm];rw[ih W,hvn]
theorem Bk {n:Nat} {P Q:Nat→Nat} {s:Nat→Nat} (hs:∀x,x<n→∃i,i<n∧s i=x) (hPQ:∀i,i<n→P i=Q (s i)):sm Q n=sm P n:=by
  have hc:∀x,∃i,x<n→i<n∧s i=x:=fun x=>by
    by_cases hx:x<n
    · obtain⟨i,h1,h2⟩:=hs x hx;exact⟨i,fun _=>⟨h1,h2⟩⟩
    · exact⟨0,fun h=>(hx h).elim⟩
  let g:Nat→Nat:=fun x=>Classical.choose (hc x)
  have hgs:∀x,x<n→g x<n∧s (g x)=x:=fun x hx=>Classical.choose_spec (hc x) hx
  rw[←Bj (n:=n) (g:=g) (fun i hi=>(hgs i hi).1) (fun a b ha hb Ch=>by rw[←(hgs a ha).2, ←(hgs b hb).2,Ch]) P];apply cg;intro x hx;show Q x=P (g x);rw[hPQ (g x) (hgs x hx).1,(hgs x hx).2]
def rG (F:Nat→Int→Nat) (NR:List Int) (i:Nat):Nat:=sm (fun j=>F j (NR.getD j 0)) i
section
variable {F:Nat→Int→Nat} {NR:List Int} {i n:Nat} {v:Int}
theorem eh {xs:List Int} {i j:Nat} {v:Int} (h:i<xs.length):(xs.set i v).getD j 0=if i=j then v else xs.getD j 0:=by
  simp only[List.getD_eq_getElem?_getD,List.getElem?_set];split
  · rename_i e;subst e;simp[h]
  · rfl
theorem Rx (h:∀j,j<i→j≠n) (hn:n<NR.length):rG F (NR.set n v) i=rG F NR i:=cg fun j hj=>by rw[eh hn,if_neg (fun e=>h j hj e.symm)]
theorem fv (hi:i<NR.length):rG F (NR.set i v) (i+1)=rG F NR i+F i v:=by
  show rG F (NR.set i v) i+F i ((NR.set i v).getD i 0)=_;rw[Rx (fun j hj=>Om) hi,eh hi,if_pos rfl]
theorem oe:rG F NR (i+1)=rG F NR i+F i (NR.getD i 0):=rfl
theorem Bl (hi:i<n) (hl:i<NR.length):rG F (NR.set i v) n+F i (NR.getD i 0)=rG F NR n+F i v:=by
  have h:=Bi (W:=fun j=>F j (NR.getD j 0)) (v:=F i v) hi;rw[rG,rG, ←h];congr 1;refine cg fun j hj=>?_
  show F j ((NR.set i v).getD j 0)=if j=i then F i v else F j (NR.getD j 0)
  rw[eh hl];by_cases e:i=j
  · subst e;rw[if_pos rfl,if_pos rfl]
  · rw[if_neg e,if_neg (fun h=>e h.symm)]
end
def fA:Nat→Int→Nat:=fun _ z=>z.natAbs
structure K7 (CN:List Nat) (NR:List Int) (i:Nat):Prop where
  ge:∀j,j<i→ -1≤NR.getD j 0
  z:∀j,j<i→(NR.getD j 0=0↔CN.getD j 0=0)
theorem K7.zero (CN:List Nat) (NR:List Int):K7 CN NR 0:=⟨fun j h=>Om,fun j h=>Om⟩
theorem K7.step {CN:List Nat} {NR:List Int} {i:Nat} {v:Int} (h:K7 CN NR i) (hi:i<NR.length) (h1: -1≤v) (h2:v=0↔CN.getD i 0=0):K7 CN (NR.set i v) (i+1):=by
  refine⟨fun j hj=>?_,fun j hj=>?_⟩
  · rw[eh hi];split
    · exact h1
    · exact h.ge j Om
  · rw[eh hi];split
    · rename_i e;subst e;exact h2
    · exact h.z j Om
theorem K7.put {CN:List Nat} {NR:List Int} {i n:Nat} {v:Int} (h:K7 CN NR n) (hi:i<NR.length) (h1:1≤v) (h2:NR.getD i 0≠0):K7 CN (NR.set i v) n:=by
  refine⟨fun j hj=>?_,fun j hj=>?_⟩
  · rw[eh hi];split
    · omega
    · exact h.ge j Om
  · rw[eh hi];split
    · rename_i e;subst e;have:=h.z i hj;constructor
      · intro h9;omega
      · intro h9;exact absurd (this.2 h9) h2
    · exact h.z j Om
def vu (NR:List Int) (i lp lg:Nat):Prop:=(lp=0∧∀j,j<i→NR.getD j 0≤0)∨(1≤lp∧lg<i∧NR.getD lg 0=lp)
theorem vu.zero (NR:List Int) (lg:Nat):vu NR 0 0 lg:=.inl ⟨rfl,fun j h=>Om⟩
theorem vu.low {NR:List Int} {i lp lg:Nat} {v:Int} (h:vu NR i lp lg) (hi:i<NR.length) (hv:v≤0):vu (NR.set i v) (i+1) lp lg:=by
  rcases h with ⟨h1,h2⟩|⟨h1,h2,h3⟩
  · refine .inl ⟨h1,fun j hj=>?_⟩;rw[eh hi];split
    · exact hv
    · exact h2 j Om
  · exact .inr ⟨h1,Om,by rw[eh hi,if_neg Om];exact h3⟩
theorem vu.new {NR:List Int} {i v:Nat} (hi:i<NR.length) (hv:1≤v):vu (NR.set i (v:Int)) (i+1) v i:=.inr ⟨hv,Om,by rw[eh hi,if_pos rfl]⟩
theorem vu.old {NR:List Int} {i lp lg v:Nat} (h:vu NR i lp lg) (hi:i<NR.length) (h1:1≤v) (hv:v≤lp):vu (NR.set i (v:Int)) (i+1) lp lg:=by
  rcases h with ⟨h1,h2⟩|⟨h1,h2,h3⟩
  · omega
  · exact .inr ⟨h1,Om,by rw[eh hi,if_neg Om];exact h3⟩
structure vV (L:Nat) (CN:List Nat) (NR:List Int) (n:Nat):Prop where
  I:K7 CN NR n
  sum:rG fA NR n=2^L
theorem Ac {W:Nat→Nat} {j:Nat}:∀{n:Nat},j<n→sm W n≤W j→∀i,i<n→i≠j→W i=0
  |0,h,_=>by omega
  |n+1,h,hs=>fun i hi Cg=>by
    simp only[sm] at hs;by_cases e:j=n
    · subst e;have hz:sm W j=0:=Om;have h1:i<j:=Om;apply Classical.byContradiction;intro uY;have hx:∀m,i<m→W i≤sm W m:=fun m=>by
        induction m with
        |zero=>intro h;omega
        |succ m ih=>
          intro h9;simp only[sm];by_cases e2:i=m
          · subst e2;omega
          · have:=ih Om;omega
      have:=hx j h1;omega
    · have hj:j<n:=Om;have hx:∀m,j<m→W j≤sm W m:=fun m=>by
        induction m with
        |zero=>intro h;omega
        |succ m ih=>
          intro h9;simp only[sm];by_cases e2:j=m
          · subst e2;omega
          · have:=ih Om;omega
      have hle:=hx n hj;by_cases e3:i=n
      · subst e3;omega
      · exact Ac hj Om i Om Cg
theorem G1:∀(cs:List Int),(a8 cs).sum=sm (fun j=>(cs.getD j 0).natAbs) cs.length
  |[]=>rfl
  |n::cs=>by
    rw[a8,List.map_cons,List.sum_cons,List.length_cons,lB];simp only[List.getD_cons_zero,List.getD_cons_succ];rw[←G1 cs];rfl
theorem gQ {NR:List Int} {n i:Nat} (h:i<n):(NR.take n).getD i 0=NR.getD i 0:=by simp[List.getD_eq_getElem?_getD,List.getElem?_take,h]
theorem vV.counts {L:Nat} {CN:List Nat} {NR:List Int} {n:Nat} (h:vV L CN NR n) (hL:L=5∨L=6) (hn:n≤13) (hl:n≤NR.length) {S:Nat} (hS:sm (fun j=>CN.getD j 0) n=S) (hm:∀j,j<n→CN.getD j 0<S):cp L (NR.take n):=by
  have hlen:(NR.take n).length=n:=by rw[List.length_take];omega
  have adR:∀c ∈ NR.take n,∃j,j<n∧c=NR.getD j 0:=fun c hc=>by
    obtain⟨i,hi,rfl⟩:=List.getElem_of_mem hc;rw[hlen] at hi;exact⟨i,hi,by simp[List.getD_eq_getElem?_getD,show i<NR.length by omega]⟩
  refine⟨hL,?_,Om,fun c hc=>?_,fun c hc=>?_⟩
  · rw[G1,hlen, ←h.sum];exact cg fun j hj=>by rw[gQ hj];rfl
  · obtain⟨j,hj,rfl⟩:=adR c hc;exact h.I.ge j hj
  · obtain⟨j,hj,rfl⟩:=adR c hc;apply Classical.byContradiction;intro wq;have e:((2:Int)^L)=((2^L:Nat):Int):=Oi;rw[e] at wq;have hz:=Ac (W:=fun j=>fA j (NR.getD j 0)) hj (by have:=h.sum;unfold rG at this;rw[this];show 2^L≤(NR.getD j 0).natAbs;omega);have wG:∀i,i<n→i≠j→CN.getD i 0=0:=fun i hi Cg=>(h.I.z i hi).1 (by have:=hz i hi Cg;simpa [fA] using this)
    have:sm (fun i=>CN.getD i 0) n=CN.getD j 0:=by
      have e1:=Bi (W:=fun i=>CN.getD i 0) (v:=0) hj;have e2:sm (fun i=>if i=j then 0 else CN.getD i 0) n=0:=by
        have:sm (fun i=>if i=j then 0 else CN.getD i 0) n=sm (fun _=>0) n:=cg fun i hi=>by
          split
          · rfl
          · rename_i h9;exact wG i hi h9
        rw[this,gP,Nat.mul_zero]
      omega
    have:=hm j hj;omega
def y4 (CN:List Nat):Nat→Int→Nat:=fun j z=>if z= -2 then CN.getD j 0 else 0
def Jd:Nat→Int→Nat:=fun _ z=>if z= -2 then 0 else z.natAbs
structure E7 (CN:List Nat) (NR:List Int) (i:Nat):Prop where
  cls:∀j,j<i→(CN.getD j 0=0∧NR.getD j 0=0)∨(CN.getD j 0≠0∧(NR.getD j 0= -1∨NR.getD j 0=1∨NR.getD j 0= -2))
theorem E7.zero (CN:List Nat) (NR:List Int):E7 CN NR 0:=⟨fun j h=>Om⟩
theorem E7.step {CN:List Nat} {NR:List Int} {i:Nat} {v:Int} (h:E7 CN NR i) (hi:i<NR.length) (hv:(CN.getD i 0=0∧v=0)∨(CN.getD i 0≠0∧(v= -1∨v=1∨v= -2))):E7 CN (NR.set i v) (i+1):=⟨fun j hj=>by
  rw[eh hi];split
  · rename_i e;subst e;exact hv
  · exact h.cls j Om⟩
theorem E7.put {CN:List Nat} {NR:List Int} {i n:Nat} (h:E7 CN NR n) (hi:i<NR.length) (hn:i<n) (hv:NR.getD i 0= -2):E7 CN (NR.set i 1) n:=⟨fun j hj=>by
  rw[eh hi];split
  · rename_i e;subst e;rcases h.cls i hn with ⟨_,h2⟩|⟨h1,_⟩
    · omega
    · exact .inr ⟨h1,.inr (.inl rfl)⟩
  · exact h.cls j hj⟩
theorem E7.adS {CN:List Nat} {NR:List Int} {n:Nat} (h:E7 CN NR n):rG Jd NR n≤n:=by
  have h1:rG Jd NR n≤sm (fun _=>1) n:=GV fun j hj=>by
    unfold Jd;split
    · omega
    · rename_i h9;rcases h.cls j hj with ⟨_,h2⟩|⟨_,h2|h2|h2⟩
      · rw[h2];simp
      · rw[h2];simp
      · rw[h2];simp
      · exact absurd h2 h9
  rwa [gP,Nat.mul_one] at h1
theorem Ry {S d A lo L:Nat} (hL:L=5∨L=6) (hS:0<S) (hd:d≤13) (Ad:lo=3*S/2^(L+1)) (hA:A≤d*lo):A<S:=by
  have h1:d*lo≤13*lo:=Nat.mul_le_mul_right _ hd;rcases hL with rfl|rfl
  · have:lo=3*S/64:=Ad;omega
  · have:lo=3*S/128:=Ad;omega
theorem K8 {T T0 d d0 lo L:Nat} (hL:L=5∨L=6) (hT:0<T0) (hd:d≤13) (h0:d0≤d) (Ad:lo=T0*3/((2^L-d0)*2)) (hA:T0≤T+(d-d0)*lo):0<T:=by
  have hZ:32≤2^L:=by rcases hL with rfl|rfl<;>decide
  have hp:0<(2^L-d0)*2:=Om;have h2:lo*((2^L-d0)*2)≤T0*3:=by rw[Ad];exact Nat.div_mul_le_self _ _
  apply Classical.byContradiction;intro hn;have K9:T0≤(d-d0)*lo:=Om;have h3:(d-d0)*lo≤(13-d0)*lo:=Nat.mul_le_mul_right _ Om
  -- T0 * (2 (32 - d0)) ≤ (13 - d0) * lo * 2 (32 - d0) ≤ (13 - d0) * 3 * T0
  have h4:T0*((2^L-d0)*2)≤(13-d0)*(T0*3):=by
    calc T0*((2^L-d0)*2)≤((13-d0)*lo)*((2^L-d0)*2):=Nat.mul_le_mul_right _ Om
      _=(13-d0)*(lo*((2^L-d0)*2)):=Nat.mul_assoc _ _ _
      _≤(13-d0)*(T0*3):=Nat.mul_le_mul_left _ h2
  have h5:T0*((2^L-d0)*2)≤T0*((13-d0)*3):=by
    have e:(13-d0)*(T0*3)=T0*((13-d0)*3):=by rw[Nat.mul_left_comm]
    omega
  have h6:=Nat.le_of_mul_le_mul_left h5 hT;omega
structure E8 (CN:List Nat) (N0 NR:List Int) (n i:Nat) (v sx rs:Nat) (tmp:Nat):Prop where
  rest:∀j,i≤j→NR.getD j 0=N0.getD j 0
  ge:∀j,j<i→ -1≤NR.getD j 0
  z:∀j,j<i→(NR.getD j 0=0↔CN.getD j 0=0)
  at_:tmp=sx+rG (y4 CN) N0 i*rs
  sum:rG fA NR i=rG Jd N0 i+tmp/2^v
theorem E8.zero {CN:List Nat} {NR:List Int} {n v sx rs:Nat} (hm:sx<2^v):E8 CN NR NR n 0 v sx rs sx:=⟨fun _ _=>rfl,fun j h=>Om,fun j h=>Om,by simp[rG,sm],by rw[Nat.div_eq_of_lt hm];rfl⟩
theorem E8.same {CN:List Nat} {N0 NR:List Int} {n i v sx rs tmp:Nat} (h:E8 CN N0 NR n i v sx rs tmp) (hJ:E7 CN N0 n) (hi:i<n) (uY:NR.getD i 0≠ -2):E8 CN N0 NR n (i+1) v sx rs tmp:=by
  have e:=h.rest i (Nat.le_refl _);have hc:=hJ.cls i hi;rw[←e] at hc;refine⟨fun j hj=>h.rest j Om,fun j hj=>?_,fun j hj=>?_,?_,?_⟩
  · by_cases ej:j=i
    · subst ej;omega
    · exact h.ge j Om
  · by_cases ej:j=i
    · subst ej;omega
    · exact h.z j Om
  · rw[oe, ←e,h.at_];simp only[y4,if_neg uY,Nat.add_zero]
  · rw[oe,oe,h.sum, ←e];simp only[fA,Jd,if_neg uY];omega
theorem E8.next {CN:List Nat} {N0 NR:List Int} {n i v sx rs tmp w:Nat} (h:E8 CN N0 NR n i v sx rs tmp) (hJ:E7 CN N0 n) (hi:i<n) (hl:i<NR.length) (he:NR.getD i 0= -2) (hw:w=(tmp+CN.getD i 0*rs)/2^v-tmp/2^v) (h1:1≤w):E8 CN N0 (NR.set i (w:Int)) n (i+1) v sx rs (tmp+CN.getD i 0*rs):=by
  have e:=h.rest i (Nat.le_refl _);have hc:=hJ.cls i hi;rw[←e] at hc;refine⟨fun j hj=>?_,fun j hj=>?_,fun j hj=>?_,?_,?_⟩
  · rw[eh hl,if_neg Om];exact h.rest j Om
  · rw[eh hl];split
    · omega
    · exact h.ge j Om
  · rw[eh hl];split
    · rename_i ej;subst ej;omega
    · exact h.z j Om
  · rw[oe, ←e,h.at_];simp only[y4,if_pos he];rw[Nat.add_mul];omega
  · rw[fv hl,oe,h.sum, ←e];simp only[fA,Jd,if_pos he,Int.natAbs_natCast];omega
theorem E8.done {CN:List Nat} {N0 NR:List Int} {n L tmp d:Nat} (hL:L=5∨L=6) {v sx rs iy:Nat} (h:E8 CN N0 NR n n v sx rs tmp) (hv:v=62-L) (Il:sx=2^(v-1)-1) (ht:rG (y4 CN) N0 n=iy) (PO:1≤iy) (V8:iy≤65536) (hd:rG Jd N0 n=d) (hd2:d≤2^L) (K6:rs=(2^v*(2^L-d)+sx)/iy):vV L CN NR n:=by
  refine⟨⟨h.ge,h.z⟩,?_⟩;have hp:65536≤2^(v-1):=by
    have:2^16≤2^(v-1):=Nat.pow_le_pow_right Om (by rcases hL with rfl|rfl<;>omega);omega
  have hs:=EY (v:=v) (D:=2^L-d) (t:=iy) PO (by rcases hL with rfl|rfl<;>omega) Om;rw[h.sum,hd,h.at_,ht,K6,Il,hs];omega
section
variable {α:Type} {f:Nat→α} {L size:Nat} {cs:List Int} {s e k p:Nat} {G G':Nat→α}
theorem yd (hC:cp L cs) (hz:size=2^L) (h:fO size (ck cs).length (fun i=>f ((n9 cs).getD i 0)) G 0 (k8 cs s)) (Ad:cs.getD s 0= -1) (he:e+k8 cs s+1=size) (e1:G' e=f s) (o:∀u,u≠e→G' u=G u):fO size (ck cs).length (fun i=>f ((n9 cs).getD i 0)) G' 0 (k8 cs (s+1)):=by
  subst hz;have hs:=hC.sz;have ha:=hC.all.1;have hl:=Ru hC Ad;have h9:k8 cs (s+1)=k8 cs s+1:=by rw[gp,Ad];rfl
  rw[h9];refine h.low hs hl ?_ ?_
  · rw[show 2^L-1-k8 cs s=e by omega,e1, ←ha,KV Ad]
  · intro u hu;exact o u Om
theorem uc (h:fO size (ck cs).length (fun i=>f ((n9 cs).getD i 0)) G 0 (k8 cs s)) (Ad:0≤cs.getD s 0):fO size (ck cs).length (fun i=>f ((n9 cs).getD i 0)) G 0 (k8 cs (s+1)):=by
  have h9:k8 cs (s+1)=k8 cs s:=by rw[gp];omega
  rwa [h9]
theorem Rz (hC:cp L cs) (hz:size=2^L) (hk:k<(cs.getD s 0).toNat):eW cs s+k<size-(ck cs).length:=by
  have ha:=hC.all.1;have:=CZ (cs:=cs) (s:=s+1);rw[iS] at this;omega
theorem vv (hC:cp L cs) (hz:size=2^L) (h:fO size (ck cs).length (fun i=>f ((n9 cs).getD i 0)) G (eW cs s+k) (ck cs).length) (hk:k<(cs.getD s 0).toNat) (hp:p=wF size (ck cs).length (eW cs s+k)) (e1:G' p=f s) (o:∀u,u≠p→G' u=G u):fO size (ck cs).length (fun i=>f ((n9 cs).getD i 0)) G' (eW cs s+(k+1)) (ck cs).length:=by
  have fg:=Rz hC hz hk;subst hz;have hs:=hC.sz;rw[Rt hs fg] at hp;exact h.flat hs fg hp (by rw[e1,Ie hk]) o
theorem Ae (hC:cp L cs) (hz:size=2^L) (h:fO size (ck cs).length (fun i=>f ((n9 cs).getD i 0)) G (eW cs s) (ck cs).length) (hs:cs.length≤s) {u:Nat} (hu:u<size):G u=f ((dA L cs).getD u 0):=by
  subst hz;rw[Ab hs,hC.all.1] at h;rw[h.done hC.sz hu,EX hu]
theorem C6 (hC:cp L cs) (hz:size=2^L):0=wF size (ck cs).length (eW cs 0):=by subst hz;exact(KS hC.sz).symm
theorem La (hC:cp L cs) (hz:size=2^L) (hs:cs.length≤s):wF size (ck cs).length (eW cs s)=0:=by subst hz;rw[Ab hs,hC.all.1];exact KT hC.sz
theorem Lb (hC:cp L cs) (hz:size=2^L) (k:Nat):wF size (ck cs).length k+(ck cs).length<size:=by subst hz;exact V1 hC.sz k
theorem Lc (hC:cp L cs) (hz:size=2^L) (k:Nat):goM size (ck cs).length size ((wF size (ck cs).length k+fk size)%size)=wF size (ck cs).length (k+1):=by subst hz;exact KU hC.sz k
theorem Bm (hC:cp L cs) (hz:size=2^L) {w t:Nat} (h:goM size (ck cs).length size w=t) (hw:w+(ck cs).length<size):w=t:=by subst hz;rw[KL hC.sz hw] at h;exact h
theorem qX (hC:cp L cs) (hz:size=2^L) {w t:Nat} (h:goM size (ck cs).length size w=t) (hw:w<size) (hn:¬w+(ck cs).length<size):goM size (ck cs).length size ((w+fk size)%size)=t∧stM size (ck cs).length size ((w+fk size)%size)<stM size (ck cs).length size w:=by
  subst hz;obtain⟨h1,h2⟩:=KM hC.sz hw hn;exact⟨by rw[←h1];exact h,h2⟩
theorem G2 (hC:cp L cs):(ck cs).length≤13:=by have:=hC.sz.2;omega
end
theorem G3:∀(ws:List Nat) (i:Nat),fm ws 15→(nib ws).getD i 0/16=ws.getD (2*i) 0∧(nib ws).getD i 0%16=ws.getD (2*i+1) 0∧(nib ws).getD i 0<256
  |[],i,_=>by simp[nib]
  |[a],0,h=>by
    have ha:=h a List.mem_cons_self;simp only[nib,List.getD_cons_zero,Nat.mul_zero,Nat.zero_add,List.getD_cons_succ];refine⟨Om,?_,Om⟩;show a*16%16=0;omega
  |[a],i+1,h=>by simp[nib,Nat.mul_add,List.getD_eq_getElem?_getD]
  |a::b::r,0,h=>by
    have ha:=h a List.mem_cons_self;have hb:=h b (List.mem_cons_of_mem _ List.mem_cons_self);simp only[nib,List.getD_cons_zero,Nat.mul_zero,Nat.zero_add,List.getD_cons_succ];omega
  |a::b::r,i+1,h=>by
    have:=G3 r i (fun x hx=>h x (List.mem_cons_of_mem _ (List.mem_cons_of_mem _ hx)));rw[show 2*(i+1)=2*i+1+1 by omega];simp only[nib,List.getD_cons_succ];exact this
theorem HW.G4 {ls:List Nat} {L last:Nat} (h:HW ls L last) (hw:jn ls):1≤last:=Classical.byContradiction fun hn=>by
  have e:last=0:=Om;obtain⟨h1,h2,h3⟩:=qf h hw;subst e;have h4:cellsW (cU ls L 0)=0:=rfl;have h5:(2:Nat)^(L-ls.getD 0 0)<2^L:=Nat.pow_lt_pow_right Om Om;omega
theorem adT {D D8:List Nat} {a i e:Nat} (h:D8=cH D a (List.replicate i e)) (hl:a+i+4≤D.length):(((D8.set (a+i) e).set (a+i+1) e).set (a+i+2) e).set (a+i+3) e=cH D a (List.replicate (i+4) e):=by
  subst h;rw[qg Om,show a+i+1=a+(i+1) by omega,qg Om,show a+i+2=a+(i+1+1) by omega,qg Om,show a+i+3=a+(i+1+1+1) by omega,qg Om]
theorem adU {D D8:List Nat} {a i e:Nat} (h:D8=cH D a (List.replicate i e)) (hl:a+i<D.length):D8.set (a+i) e=cH D a (List.replicate (i+1) e):=by
  subst h;exact qg hl
theorem RA {a n:Nat} (h:a<256):a|||256*n=a+256*n:=by
  have:=gn (a:=n) (b:=a) (n:=8) h;rw[show n*2^8=256*n by omega] at this;omega
theorem qj {x y:Nat} (h:x<16) (k:y<16):x|||y<16:=Nat.or_lt_two_pow (n:=4) h k
theorem Ld {w:Nat} (h:1≤w):2^w/2^1=2^(w-1):=by
  obtain⟨m,rfl⟩:∃m,w=m+1:=⟨w-1,Om⟩;rw[Nat.pow_succ,Nat.add_sub_cancel];omega
theorem Le {m:Nat} (h:4≤2^m):2^m%4=0:=by
  have h2:2≤m:=Classical.byContradiction fun hn=>by
    have:=Nat.pow_le_pow_right (show 0<2 by omega) (show m≤1 by omega);omega
  obtain⟨k,rfl⟩:∃k,m=k+2:=⟨m-2,Om⟩;rw[Nat.pow_add];omega
theorem Im {W ws:List Nat} {n j:Nat} (h:W.take n=ws) (hj:j<n):W.getD j 0=ws.getD j 0:=by
  rw[←h];simp[List.getD_eq_getElem?_getD,List.getElem?_take,hj]
theorem Lf {W ws aw:List Nat} {n x j:Nat} (h:∀j,j<n→W.getD j 0=ws.getD j 0) (hw:ws.length=n) (hl:n<W.length) (e:aw=ws++[x]) (hj:j<n+1):(W.set n x).getD j 0=aw.getD j 0:=by
  subst e;rw[iR hl];by_cases e2:n=j
  · subst e2;rw[if_pos rfl,sw Om,hw,Nat.sub_self];rfl
  · rw[if_neg e2,EW Om];exact h j Om
structure E9 (ws aw:List Nat) (L last nl:Nat):Prop where
  wl:ws.length=last
  wL:∀w ∈ ws,w≤L
  al:aw.length=last+1
  aL:∀w ∈ aw,w≤L
  ea:aw=ws++[L-nl+1]
  L1:1≤L∧L≤11
  nl1:1≤nl∧nl≤L
  G4:1≤last∧last≤255
  sum:cellsW ws+2^(L-nl)=2^L
  adV:cellsW aw=2^L
  log:av (cellsW ws)=L∧2^(L-1)≤cellsW ws
  ev:2≤aw.count 1∧aw.count 1%2=0
theorem E9.of {ls ws aw:List Nat} {L last nl:Nat} (h:HW ls L last) (hw:jn ls) (he:nh ls) (h1:ws=cU ls L last) (h2:aw=l8 ls L last) (h3:nl=ls.getD last 0):E9 ws aw L last nl:=by
  subst h1;subst h2;subst h3;have hl:=h.lt;have CD:=hw.1;obtain⟨s1,s2,s3⟩:=qf h hw;refine⟨kY Om,tM,vQ h,Ba,?_,⟨h.L1,h.L11 hw⟩,⟨s2,s3⟩,⟨h.G4 hw,Om⟩,s1,qe h hw (h.L11 hw),CW h hw,Bb h (h.L11 hw) he⟩;rw[z6 h];have:=h.nz;unfold uV;rw[if_neg this];congr 2;omega
theorem fm.of {ws:List Nat} {L:Nat} (h:∀w ∈ ws,w≤L) (i:Nat):ws.getD i 0≤L:=fm.at_ (b:=L) h i
theorem pd {ws:List Nat} {L v:Nat} (h:∀w ∈ ws,w≤L) (hv:L<v):ws.count v=0:=List.count_eq_zero.2 fun hm=>by have:=h v hm;omega
theorem C7 {cs:List Int} (h:cp 5 cs) {u:Nat} (hu:u<32):((e7 5 cs).getD u (0,0,0)).1<cs.length∧((e7 5 cs).getD u (0,0,0)).2.1≤5∧((e7 5 cs).getD u (0,0,0)).2.2+2^((e7 5 cs).getD u (0,0,0)).2.1≤32:=by
  obtain⟨s,k,e,_,h3,_,h1,h2,h4,h5,h6,h7⟩:=o7 h (u:=u) hu;rw[e];exact⟨h3,h5,h7⟩
theorem mZ.ud {T:List Cell} {text A:List Nat} (h:mZ 5 T text A) (i:Nat):A.getD i 0<32:=by
  rcases Nat.lt_or_ge i A.length with hi|hi
  · exact h.lt (A.getD i 0) (by simp[List.getD_eq_getElem?_getD,hi])
  · rw[List.getD_eq_getElem?_getD,List.getElem?_eq_none hi];decide
def mG (ws ys:List Nat):Prop:=(ws.length≤128∧ys=[127+ws.length]++nib ws)∨(∃cs b,gK 5 cs ws b∧b.length≤127∧ys=[b.length]++b)
theorem dj.adW {cs:List Int} {E:List Nat} (h:dj 32 cs E):5≤E.length:=by
  obtain⟨n,t,b,hE,_⟩:=h.inv Om;have:=mB (dQ:=32+1) (v:=(n+1).toNat);have h7:av (32+1)=6:=Od;rw[hE,List.length_append];omega
theorem jR.two {T:List Cell} {ws ys:List Nat} (h:jR 5 T ws ys):2≤ys.length:=by
  obtain⟨A,h1,_,h2,h3,h4⟩:=h.ex;omega
theorem gK.V' {cs:List Int} {ws b:List Nat} (h:gK 5 cs ws b):4≤b.length:=by
  obtain⟨E,hD,hL,h1,h2,hp⟩:=h.read;have a:=hp.two;have c:=dj.adW hD;rw[List.length_drop] at a;omega
theorem mG.at_ {ws ys xs:List Nat} {ki li x0:Nat} (h:mG ws ys) (h1:1≤ws.length) (Ej:ys.length=li) (Bn:∀i,i<li→xs.getD (ki+i) 0=ys.getD i 0) (Rn:xs.getD ki 0=x0):
    2≤li∧((ws.length≤128∧x0=127+ws.length∧li=1+(ws.length+1)/2∧∀i,i<(ws.length+1)/2→xs.getD (ki+1+i) 0=(nib ws).getD i 0)∨
      (∃cs b,gK 5 cs ws b∧b.length=x0∧x0≤127∧li=1+x0∧(∀i,i<x0→xs.getD (ki+1+i) 0=b.getD i 0)∧ys=[b.length]++b)):=by
  rcases h with ⟨h2,h3⟩|⟨cs,b,h4,h5,h6⟩
  · have hn:(nib ws).length=(ws.length+1)/2:=ss ws;have RB:li=1+(ws.length+1)/2:=by rw[←Ej,h3,List.length_append,hn];rfl
    refine⟨Om,.inl ⟨h2,?_,RB,fun i hi=>?_⟩⟩
    · have:=Bn 0 Om;rw[Nat.add_zero,h3] at this;rw[←Rn,this];rfl
    · rw[Nat.add_assoc,Bn _ Om,h3,sw Oi,show 1+i-[127+ws.length].length=i by simp]
  · have GJ:=h4.V';have RB:li=1+b.length:=by rw[←Ej,h6,List.length_append];rfl
    have hx:x0=b.length:=by
      have:=Bn 0 Om;rw[Nat.add_zero,h6] at this;rw[←Rn,this];rfl
    refine⟨Om,.inr ⟨cs,b,h4,hx.symm,Om,Om,fun i hi=>?_,h6⟩⟩;rw[Nat.add_assoc,Bn _ Om,h6,sw Oi,show 1+i-[b.length].length=i by simp]
def khL (m:Nat):List Nat→Nat
  |[]=>0
  |x::xs=>(if m≤x then 2^(11-x) else 0)+khL m xs
def klL (m:Nat):List Nat→Nat
  |[]=>0
  |x::xs=>(if x=0 then 0 else if x<m then 2^(11-x) else 0)+klL m xs
theorem ye {m:Nat} (hm:1≤m):∀ls:List Nat,iw ls=khL m ls+klL m ls
  |[]=>rfl
  |x::xs=>by
    simp only[iw,khL,klL,ye hm xs];by_cases h0:x=0
    · rw[if_pos h0,if_pos h0,if_neg Om];omega
    · rw[if_neg h0,if_neg h0];by_cases h1:m≤x
      · rw[if_pos h1,if_neg Om];omega
      · rw[if_neg h1,if_pos Om];omega
theorem yf (m:Nat):∀ls:List Nat,khL m ls=khL (m+1) ls+ls.count m*2^(11-m)
  |[]=>by simp[khL]
  |x::xs=>by
    simp only[khL,yf m xs,List.count_cons];by_cases h:x=m
    · subst h;rw[if_pos (Nat.le_refl _),if_neg Om,if_pos Oi,Nat.add_mul];omega
    · rw[if_neg (show¬(x==m)=true by simpa using h)];simp only[Nat.add_zero];by_cases h1:m≤x
      · rw[if_pos h1,if_pos Om];omega
      · rw[if_neg h1,if_neg Om];omega
theorem Bo {m:Nat} (hm:m≤12):∀ls:List Nat,2^(12-m)∣klL m ls
  |[]=>by simp[klL]
  |x::xs=>by
    simp only[klL];refine Nat.dvd_add ?_ (Bo hm xs);split
    · exact Nat.dvd_zero _
    · split
      · exact Nat.pow_dvd_pow 2 Om
      · exact Nat.dvd_zero _
theorem RC {ls:List Nat} (h:fm ls 11):khL 12 ls=0:=by
  induction ls with
  |nil=>rfl
  |cons x xs ih=>
    have:=h x List.mem_cons_self;simp only[khL];rw[if_neg Om,ih fun y hy=>h y (List.mem_cons_of_mem _ hy)]
theorem jn.even {ls:List Nat} (h:jn ls):nh ls:=by
  obtain⟨h1,h2,h3,h4⟩:=h;have key:∀d,d≤10→(zQ ls (11-d)+ls.count (11-d))*2^d=khL (11-d) ls∧(zQ ls (11-d)+ls.count (11-d))%2=0:=by
    intro d;have fin:d≤10→(zQ ls (11-d)+ls.count (11-d))*2^d=khL (11-d) ls→(zQ ls (11-d)+ls.count (11-d))%2=0:=fun hd e=>by
      have k1:=ye (m:=11-d) Om ls;have k2:=Bo (m:=11-d) Om ls;rw[show 12-(11-d)=d+1 by omega] at k2;have k3:2^(d+1)∣iw ls:=by rw[h3];exact Nat.pow_dvd_pow 2 (show d+1≤11 by omega)
      rw[k1] at k3;have k4:=(Nat.dvd_add_left k2).1 k3;rw[←e,Nat.pow_succ,Nat.mul_comm (2^d) 2] at k4;have k5:=Nat.dvd_of_mul_dvd_mul_right (Nat.two_pow_pos d) k4;omega
    induction d with
    |zero=>
      intro hd;have e:(zQ ls (11-0)+ls.count (11-0))*2^0=khL (11-0) ls:=by
        have t:=yf 11 ls;rw[RC h2] at t;have n0:zQ ls 11=0:=wX h2 Om;simp only[Nat.sub_zero,n0,Nat.pow_zero,Nat.mul_one,Nat.zero_add] at t ⊢;simpa using t.symm
      exact⟨e,fin hd e⟩
    |succ d ih=>
      intro hd;have adX:d≤10→(zQ ls (11-d)+ls.count (11-d))*2^d=khL (11-d) ls→(zQ ls (11-d)+ls.count (11-d))%2=0:=fun hd e=>by
        have k1:=ye (m:=11-d) Om ls;have k2:=Bo (m:=11-d) Om ls;rw[show 12-(11-d)=d+1 by omega] at k2;have k3:2^(d+1)∣iw ls:=by rw[h3];exact Nat.pow_dvd_pow 2 (show d+1≤11 by omega)
        rw[k1] at k3;have k4:=(Nat.dvd_add_left k2).1 k3;rw[←e,Nat.pow_succ,Nat.mul_comm (2^d) 2] at k4;have k5:=Nat.dvd_of_mul_dvd_mul_right (Nat.two_pow_pos d) k4;omega
      obtain⟨i1,i2⟩:=ih adX Om;have np:=xR ls (m:=11-d) Om Om;rw[show 11-d-1=11-(d+1) by omega] at np;have st:=yf (11-(d+1)) ls;rw[show 11-(d+1)+1=11-d by omega,show 11-(11-(d+1))=d+1 by omega] at st;have e2:zQ ls (11-(d+1))*2^(d+1)=khL (11-d) ls:=by
        rw[←i1,np,Nat.pow_succ,Nat.mul_comm (2^d) 2, ←Nat.mul_assoc];congr 1;omega
      have e:(zQ ls (11-(d+1))+ls.count (11-(d+1)))*2^(d+1)=khL (11-(d+1)) ls:=by rw[Nat.add_mul,e2,st]
      exact⟨e,fin hd e⟩
  intro m m1 m2;have:=(key (11-m) Om).2;rwa [show 11-(11-m)=m by omega] at this
def BR.rH (s:BR) (n:Nat):Nat:=if n=0 then 0 else s.j4 n
theorem BR.Lg {s:BR} (h:s.rd<256):s.gx 0=s:=by
  unfold BR.gx;rw[Nat.add_zero,Nat.mod_eq_of_lt h]
structure Bp (T:List Cell):Prop where
  len:T.length=32
  cell:∀u,u<32→(T.getD u (0,0,0)).2.1≤5∧(T.getD u (0,0,0)).2.2+2^(T.getD u (0,0,0)).2.1≤32∧(T.getD u (0,0,0)).1<256
theorem Bp.of {cs:List Int} (hC:cp 5 cs):Bp (e7 5 cs):=by
  refine⟨rE,fun u hu=>?_⟩;obtain⟨h1,h2,h3⟩:=C7 hC hu;have:=hC.len;exact⟨h2,h3,Om⟩
def C9 (T:List Cell):Prop:=∀u,u<32→1≤(T.getD u (0,0,0)).2.1
theorem C9.of {cs:List Int} (hC:cp 5 cs) (h:∀i,(a8 cs).getD i 0<16):C9 (e7 5 cs):=fun u hu=>by
  obtain⟨s,k,e,hs,hl,hk,h1,h2,h3,h4,h5,h6⟩:=o7 hC (u:=u) hu;have hn:=h s;have:=KC (log:=5) h1 h3 Om;rw[e];exact this
section
variable {xs text A:List Nat} {k len i:Nat} {T:List Cell} {s:BR}
theorem kv.vW (h:kv xs k len T A i s) (hT:mZ 5 T text A) (hp:0<8*s.off+(64-s.rd)):i+2<text.length:=by
  refine Classical.byContradiction fun hn=>?_
  have h1:=(sr (T:=T) (at_:=A) (i:=i) (by rw[hT.len];omega)).1;have h2:=h.pos.n;omega
theorem kv.adY (h:kv xs k len T A i s) (hT:mZ 5 T text A) (hE:∀i,i<text.length→text.length≤i+2→1≤(T.getD (A.getD i 0) (0,0,0)).2.1) (hi:i<text.length):((64≤s.rd∧s.off=0)∧0<(T.getD (A.getD i 0) (0,0,0)).2.1)↔text.length≤i+2:=by
  have h2:=h.pos.n;have h3:=h.pos.rd;constructor
  · intro ⟨⟨h4,h5⟩,h7⟩;refine Classical.byContradiction fun hn=>?_
    have e:=(tI (T:=T) (at_:=A) (i:=i) (by rw[hT.len];omega)).1;omega
  · intro h4;have h1:=(sr (T:=T) (at_:=A) (i:=i) (by rw[hT.len];exact h4)).1;have:=hE i hi h4;omega
theorem kv.ue (h:kv xs k len T A i s) (hT:mZ 5 T text A) (hO:Bp T) (hb:Bytes xs) (hi:i+2<text.length) (hr:s.rd+5≤64∨s.off=0):
    s.rd+(T.getD (A.getD i 0) (0,0,0)).2.1≤64∧(T.getD (A.getD i 0) (0,0,0)).2.2+s.rH (T.getD (A.getD i 0) (0,0,0)).2.1=A.getD (i+2) 0∧kv xs k len T A (i+1) (s.gx (T.getD (A.getD i 0) (0,0,0)).2.1)∧(s.gx (T.getD (A.getD i 0) (0,0,0)).2.1).rd≤s.rd+5:=by
  have hc:=hO.cell _ (hT.ud i);have lY:=h.pos.rd;by_cases h0:(T.getD (A.getD i 0) (0,0,0)).2.1=0
  · obtain⟨e1,e2⟩:=tI (T:=T) (at_:=A) (i:=i) (by rw[hT.len];exact hi);have hs:=hT.step i hi;rw[h0] at e1 hs ⊢;rw[Nat.zero_add] at e1;rw[Nat.pow_zero] at hs;rw[show A.getD (i+2) 0-(T.getD (A.getD i 0) (0,0,0)).2.2=0 by omega,Nat.zero_mul,Nat.zero_add] at e2;have hp:=h.pos;rw[e1,e2] at hp;rw[BR.Lg Om];exact⟨Om,by unfold BR.rH;rw[if_pos rfl];omega,⟨hp⟩,Om⟩
  · obtain⟨h1,h2,h3⟩:=h.bits hT hb hi Om Om (hr.imp Om id);exact⟨h1,by unfold BR.rH;rw[if_neg h0];exact h2,h3,by show(s.rd+_)%256≤_;omega⟩
end
theorem kv.Wa {xs text A:List Nat} {k len:Nat} {T:List Cell} (hT:mZ 5 T text A) (hb:Bytes xs) (hl:len=(2*5+fN T A)/8+1) (hv:tailV xs k len=2^(2*5+fN T A)+((A.getD 0 0*2^5+A.getD 1 0)*2^fN T A+fR T A)):
    0<xs.getD (k+(len-1)) 0∧(BR.gJ xs k len).rd<64∧(BR.gJ xs k len).OK len∧(BR.gJ xs k len).j4 5=A.getD 0 0∧((BR.gJ xs k len).gx 5).rd<64∧((BR.gJ xs k len).gx 5).OK len∧((BR.gJ xs k len).gx 5).j4 5=A.getD 1 0∧kv xs k len T A 0 (((BR.gJ xs k len).gx 5).gx 5):=by
  have hR:=z' hT;have h0:=hT.ud 0;have h1:=hT.ud 1;have hf:fR T A<2^fN T A:=by have:=mZ.lt_ hT _ 0 rfl;rwa [List.drop_zero] at this
  have hP:jf xs k len (BR.gJ xs k len) (2*5+fN T A) ((A.getD 0 0*2^5+A.getD 1 0)*2^fN T A+fR T A)∧0<xs.getD (k+(len-1)) 0∧(BR.gJ xs k len).rd+10≤64:=by
    rcases jf.tH hb hl hR hv with ⟨a,b,c⟩|⟨a,b,c⟩
    · exact⟨a,b,Om⟩
    · have:=a.n;have:=a.rd;exact⟨a,b,Om⟩
  obtain⟨Je,hx,lY⟩:=hP;generalize BR.gJ xs k len=s at*;have pos:0<2^fN T A:=Nat.pow_pos Om;have p6:(2:Nat)^(5+fN T A)=2^5*2^fN T A:=Nat.pow_add _ _ _;generalize hn:fN T A=n at*;generalize A.getD 0 0=a at*;generalize A.getD 1 0=c at*;generalize hr:fR T A=r at*;obtain⟨yZ,_⟩:=Je.bits hb (m:=5) Om Om Om;have Ee:=Je.skip hb (m:=5) Om;have alV:(s.gx 5).rd=s.rd+5:=by show(s.rd+5)%256=_;omega
  rw[show 2*5+n-5=5+n by omega] at yZ Ee;have e0:(a*2^5+c)*2^n+r=a*2^(5+n)+(c*2^n+r):=by rw[p6,Nat.add_mul,Nat.mul_assoc];omega
  have fg:c*2^n+r<2^(5+n):=by
    have:(c+1)*2^n≤2^5*2^n:=Nat.mul_le_mul_right _ Om;rw[Nat.add_mul,Nat.one_mul] at this;omega
  have p6':0<2^(5+n):=Nat.pow_pos Om;rw[e0,Nat.add_comm (_*_),Nat.add_mul_div_right _ _ p6',Nat.div_eq_of_lt fg,Nat.zero_add] at yZ;rw[e0,Nat.add_comm (_*_),Nat.add_mul_mod_self_right,Nat.mod_eq_of_lt fg] at Ee;obtain⟨tS,_⟩:=Ee.bits hb (m:=5) Om Om Om;have HP:=Ee.skip hb (m:=5) Om;rw[show 5+n-5=n by omega] at tS HP;rw[Nat.add_comm (_*_),Nat.add_mul_div_right _ _ pos,Nat.div_eq_of_lt hf,Nat.zero_add] at tS;rw[Nat.add_comm (_*_),Nat.add_mul_mod_self_right,Nat.mod_eq_of_lt hf] at HP;exact⟨hx,Om,Je.ok,yZ,Om,Ee.ok,tS,⟨by rw[List.drop_zero,hn,hr];exact HP⟩⟩
theorem iz (P:List Int):(a8 P).length=P.length:=by simp[a8]
theorem Da {P:List Int} {j:Nat} (h:P.length≤j):(a8 P).getD j 0=0:=by
  rw[List.getD_eq_getElem?_getD,List.getElem?_eq_none (by rw[iz];exact h)];rfl
theorem zf {P:List Int} {i:Nat}:(a8 P).getD i 0=(P.getD i 0).natAbs:=j6 rfl _ _
theorem Wb {P:List Int} {i:Nat} {zb:Bool} (h:P.length≤i) (hz:zb=false→∀j,j<i→(a8 P).getD j 0<16):zb=false→∀j,(a8 P).getD j 0<16:=fun h9 j=>by
  rcases Nat.lt_or_ge j i with h8|h8
  · exact hz h9 j h8
  · rw[Da Om];decide
theorem Lh (n:Nat):n&&&31=n%32:=Nat.and_two_pow_sub_one_eq_mod n 5
theorem zg (C:List Nat) (u s:Nat):(C.take u).count s≤u:=Nat.le_trans List.count_le_length (by rw[List.length_take];omega)
theorem lb {xs:List Int} {i:Nat} {v:Int} (h:i<xs.length):(xs.set i v).take (i+1)=xs.take i++[v]:=by
  rw[List.take_succ_eq_append_getElem (by rw[List.length_set];exact h),List.getElem_set_self,List.take_set];congr 1;exact List.set_eq_of_length_le (by rw[List.length_take];omega)
def qk (pz:Bool) (left:Nat) (cr:List Int) (er:List Nat):Prop:=(pz=false∧dj left cr er)∨(pz=true∧0<left∧∃z c t b,er=cN z++b∧cr=List.replicate z 0++c::t∧dj left (c::t) b)
theorem qk.next {left:Nat} {n:Int} {t:List Int} {b:List Nat} {l':Nat} (h0:0<left) (h:(n≠0∧dj (left-n.natAbs) t b)∨(n=0∧∃z c t2 b2,b=cN z++b2∧t=List.replicate z 0++c::t2∧dj left (c::t2) b2)) (hl:l'=left-n.natAbs):qk (decide (n=((0:Nat):Int))) l' t b:=by
  subst hl;rcases h with ⟨h1,h2⟩|⟨h1,h2⟩
  · exact .inl ⟨decide_eq_false Om,h2⟩
  · subst h1;exact .inr ⟨rfl,by simpa using h0,by simpa using h2⟩
theorem qk.VY {pz:Bool} {left:Nat} {cr:List Int} {er:List Nat} (h:qk pz left cr er) (h0:left=0):er=[]∧cr=[]:=by
  rcases h with ⟨_,h2⟩|⟨_,h2,_⟩
  · exact h2.VY h0
  · omega
theorem cp.two {log:Nat} {cs:List Int} (h:cp log cs):2≤cs.length:=by
  match cs,h with
  |[],h=>have:=h.sum;have h2:=h.size;simp[a8] at this;omega
  |[x],h=>
    have h1:=h.sum;have h2:=h.ER x.natAbs (by simp[a8]);simp[a8] at h1;omega
  |x::y::t,_=>simp
theorem gK.text {cs:List Int} {ws ys:List Nat} {p:Nat} (RD:jR 5 (e7 5 cs) ws (ys.drop p)) {xs:List Nat} {ki li:Nat} (Ej:ys.length=li) (Bn:∀i,i<li→xs.getD (ki+i) 0=ys.getD i 0):
    ∃A,mZ 5 (e7 5 cs) ws A∧(∀i,i<ws.length→ws.length≤i+2→1≤((e7 5 cs).getD (A.getD i 0) (0,0,0)).2.1)∧li-p=(2*5+fN (e7 5 cs) A)/8+1∧tailV xs (ki+p) (li-p)=2^(2*5+fN (e7 5 cs) A)+((A.getD 0 0*2^5+A.getD 1 0)*2^fN (e7 5 cs) A+fR (e7 5 cs) A):=by
  obtain⟨A,h1,h5,h2,h3,h4⟩:=RD.ex;rw[List.length_drop,Ej] at h3;refine⟨A,h1,h5,h3,?_⟩;rw[h3, ←h4];refine lA _ fun i hi=>?_
  rw[Nat.add_assoc,Bn _ Om,Nat.zero_add];simp[List.getD_eq_getElem?_getD]
theorem gK.first {cs:List Int} {ws b:List Nat} (h:gK 5 cs ws b):b.getD 0 0%16=0:=by
  have hl:=h.V';obtain⟨E,hD,hL,_⟩:=h.read;have h1:=(hL.take h.bytes).1;have h2:=(hL.take h.bytes).2.2;rw[xQ h.bytes (m:=b.length) 4 h2,Nat.pow_zero,Nat.div_one] at h1;have h3:=xP h.bytes (j:=0) (n:=b.length) Om;rw[Nat.mul_zero,Nat.pow_zero,Nat.div_one] at h3;omega
structure nS (P:List Nat) (C nb n V:Nat):Prop where
  by_:Bytes P
  lt:C<2^nb
  small:nb≤63
  len:8*P.length+nb=n
  val:tailV P 0 P.length+C*2^(8*P.length)=V
theorem l9 (P:List Nat):∀(Q:List Nat) (k:Nat),k≤Q.length→tailV (P++Q) 0 (P.length+k)=tailV P 0 P.length+tailV Q 0 k*2^(8*P.length)
  |Q,0,_=>by
    simp only[tailV,Nat.zero_mul,Nat.add_zero];exact lA _ fun i hi=>by simp[List.getD_eq_getElem?_getD,List.getElem?_append_left hi]
  |Q,k+1,h=>by
    have ih:=l9 P Q k Om;rw[←Nat.add_assoc];simp only[tailV,ih,Nat.zero_add];have e:(P++Q).getD (P.length+k) 0=Q.getD k 0:=by
      simp only[List.getD_eq_getElem?_getD];rw[List.getElem?_append_right Om,Nat.add_sub_cancel_left]
    rw[e,Nat.add_mul,Nat.mul_add,Nat.pow_add,Nat.mul_comm (2^(8*P.length)) (2^(8*k)),Nat.mul_assoc,Nat.add_assoc]
def bE (C k:Nat):List Nat:=(List.range k).map fun i=>C/2^(8*i)%256
theorem aH (C k:Nat):(bE C k).length=k:=by simp[bE]
theorem Fa {C k i:Nat} (h:i<k):(bE C k).getD i 0=C/2^(8*i)%256:=by simp[bE,List.getD_eq_getElem?_getD,h]
theorem uf (C k:Nat):Bytes (bE C k):=fun x hx=>by
  obtain⟨i,_,rfl⟩:=List.mem_map.1 hx;exact Nat.mod_lt _ Od
theorem nr (C k:Nat):bE C (k+1)=bE C k++[C/2^(8*k)%256]:=by simp[bE,List.range_succ]
theorem qm (C k:Nat):∀j,j≤k→tailV (bE C k) 0 j=C%2^(8*j)
  |0,_=>by simp[tailV,Nat.mod_one]
  |j+1,h=>by
    simp only[tailV,Nat.zero_add];rw[qm C k j Om,Fa Om,Nat.mul_add,Nat.pow_add,Nat.mod_mul];show _+C/2^(8*j)%256*2^(8*j)=_+2^(8*j)*(C/2^(8*j)%256);rw[Nat.mul_comm (C/2^(8*j)%256)]
section
variable {P:List Nat} {C nb n V:Nat}
theorem nS.begin {P:List Nat} {n:Nat} (h:P=[]) (hn:n=0):nS P 0 0 n 0:=by
  subst h;subst hn;exact⟨(fun x hx=>by cases hx),Od,Od,rfl,rfl⟩
theorem nS.add (h:nS P C nb n V) {x b:Nat} (hx:x<2^b) (hb:nb+b≤63):nS P (C+x*2^nb) (nb+b) (n+b) (V+x*2^n):=by
  refine⟨h.by_,?_,hb,by have:=h.len;omega,?_⟩
  · have h1:=h.lt;have h2:(x+1)*2^nb≤2^b*2^nb:=Nat.mul_le_mul_right _ hx;rw[Nat.add_mul,Nat.one_mul] at h2;rw[Nat.add_comm nb b,Nat.pow_add];omega
  · rw[Nat.add_mul, ←Nat.add_assoc,h.val,Nat.mul_assoc, ←Nat.pow_add,show nb+8*P.length=n by have:=h.len;omega]
theorem nS.flush (h:nS P C nb n V) {k:Nat} (hk:8*k≤nb):nS (P++bE C k) (C/2^(8*k)) (nb-8*k) n V:=by
  have hl:(P++bE C k).length=P.length+k:=by rw[List.length_append,aH]
  refine⟨fun x hx=>(List.mem_append.1 hx).elim (h.by_ x) (uf C k x),?_,by have:=h.small;omega,by rw[hl];have:=h.len;omega,?_⟩
  · have h1:=h.lt;rw[Nat.div_lt_iff_lt_mul (Nat.two_pow_pos _), ←Nat.pow_add,show nb-8*k+8*k=nb by omega];exact h1
  · rw[hl,l9 P _ k (by rw[aH];exact Nat.le_refl _),qm C k k (Nat.le_refl _), ←h.val,Nat.mul_add,Nat.pow_add,Nat.mul_comm (2^(8*P.length)), ←Nat.mul_assoc,Nat.add_assoc, ←Nat.add_mul];congr 2;have:=Nat.mod_add_div C (2^(8*k));rw[Nat.mul_comm (2^(8*k))] at this;exact this
theorem nS.align (h:nS P C nb n V) {k:Nat} (hk:k=(nb+7)/8):Bytes (P++bE C k)∧(P++bE C k).length=(n+7)/8∧tailV (P++bE C k) 0 ((n+7)/8)=V:=by
  have hn:=h.len;have hl:(P++bE C k).length=P.length+k:=by rw[List.length_append,aH]
  have y8:P.length+k=(n+7)/8:=Om;refine⟨fun x hx=>(List.mem_append.1 hx).elim (h.by_ x) (uf C k x),Om,?_⟩;rw[←y8,l9 P _ k (by rw[aH];exact Nat.le_refl _),qm C k k (Nat.le_refl _)];have h1:=h.lt;have h2:2^nb≤2^(8*k):=Nat.pow_le_pow_right Om Om;rw[Nat.mod_eq_of_lt Om,h.val]
end
theorem G5 (C:Nat):[C%256]=bE C 1:=by simp[bE]
theorem Bq (C:Nat):[C%256,C/2^8%256]=bE C 2:=by simp[bE,List.range_succ]
theorem G6 (C:Nat):[C%256,C/2^8%256,C/2^16%256]=bE C 3:=by simp[bE,List.range_succ]
theorem w4 (C:Nat):[C%256,C/2^8%256,C/2^16%256,C/2^24%256]=bE C 4:=by simp[bE,List.range_succ]
theorem ld {C x nb:Nat} (h:C<2^nb):C|||x*2^nb=C+x*2^nb:=by rw[gn h,Nat.add_comm]
theorem Br:Array.range 4= #[0,1,2,3]:=by decide
def jw:List Nat:=[0,1,3,7,15,31,63,127,255,511,1023,2047,4095,8191,16383,32767,65535,65535,65535,65535,65535,65535,65535,65535,65535,65535,0,0,0,0,0,0]
theorem Li {v b:Nat} (h:b≤16):v&&&jw.getD b 0=v%2^b:=by
  have e:jw.getD b 0=2^b-1:=by
    have:∀b,b<17→jw.getD b 0=2^b-1:=Od;exact this b Om
  rw[e,Nat.and_two_pow_sub_one_eq_mod]
theorem RE {v b:Nat} (h1:1≤b) (h:b≤16):v*2^(16-b)%65536/2^(16-b)=v%2^b:=by
  have e:65536=2^b*2^(16-b):=by rw[←Nat.pow_add,show b+(16-b)=16 by omega]
  rw[e,Nat.mul_mod_mul_right,Nat.mul_div_cancel _ (Nat.two_pow_pos _)]
theorem G7 (b:Nat):jw.getD b 0<65536:=by
  rcases Nat.lt_or_ge b 32 with h|h
  · have:∀b,b<32→jw.getD b 0<65536:=Od;exact this b h
  · rw[List.getD_eq_getElem?_getD,List.getElem?_eq_none (by simpa [jw] using h)];decide
theorem nS.Wc {P:List Nat} {C nb n V:Nat} (h:nS P C nb n V):nS P (C/2^(8*0)) (nb-8*0) n V:=by simpa using h
theorem vw {L n:Nat} (hL:L≤6):kZ L n≤393216:=by
  unfold kZ;split
  · have:=Nat.sub_le (L*65536) (2^L);omega
  · have:=Nat.sub_le ((L-(av (n-1)-1))*65536) (n*2^(L-(av (n-1)-1)));have:(L-(av (n-1)-1))*65536≤6*65536:=Nat.mul_le_mul_right _ Om;omega
theorem pe {x b nb:Nat} (h:x<2^b) (hb:nb+b≤63):x*2^nb<9223372036854775808:=by
  have h1:x*2^nb<2^b*2^nb:=Nat.mul_lt_mul_of_pos_right h (Nat.two_pow_pos _);rw[←Nat.pow_add] at h1;have h2:2^(b+nb)≤2^63:=Nat.pow_le_pow_right Om Om;omega
theorem kz {C nb:Nat} (h:C<2^nb) (hb:nb≤63):C<9223372036854775808:=by
  have h2:2^nb≤2^63:=Nat.pow_le_pow_right Om hb;omega
structure ke (L:Nat) (Cc ns S:List Nat) (TT:List (Int × Nat)):Prop where
  laid:j7 L Cc ns
  lg:L=5∨L=6
  st:∀s j,j<ns.getD s 0→S.getD (eF ns s+j) 0=2^L+occC Cc s j
  tt:∀s,1≤ns.getD s 0→TT.getD s (0,0)=(((eF ns s:Nat):Int)-((ns.getD s 0:Nat):Int),kZ L (ns.getD s 0))
  Fb:TT.length=256
  sl:S.length=2^L
  sum:ns.sum=2^L
def wA (L:Nat) (Cc ns X:List Nat) (N i:Nat):Nat:=(encA L Cc ns (X.take N)).getD i 0
def lC (L:Nat) (Cc ns X:List Nat) (N k V0:Nat) (P:List Nat) (C nb i:Nat):Prop:=
  nS P C nb (8*k+fN (buildD L Cc ns) ((encA L Cc ns (X.take N)).drop i)) (V0+fR (buildD L Cc ns) ((encA L Cc ns (X.take N)).drop i)*2^(8*k))
section
variable {L:Nat} {Cc ns S X:List Nat} {TT:List (Int × Nat)} {N i k V0:Nat}
theorem ug {X:List Nat} {N i:Nat} (h:i<N):(X.take N).getD i 0=X.getD i 0:=by simp[List.getD_eq_getElem?_getD,List.getElem?_take,h]
theorem ke.m8 (h:ke L Cc ns S TT) (s:Nat):eF ns s+ns.getD s 0≤2^L:=by
  rw[←h.sum, ←eg];exact l7
theorem ke.some (h:ke L Cc ns S TT) (hN:N≤X.length) (hs:∀s ∈ X.take N,1≤ns.getD s 0) (hi:i<N):1≤ns.getD (X.getD i 0) 0∧ns.getD (X.getD i 0) 0<2^L:=by
  refine⟨hs _ ?_,h.laid.le _⟩;rw[←ug hi];have:i<(X.take N).length:=by rw[List.length_take];omega
  exact ix this
theorem ke.Wd (h:ke L Cc ns S TT) (hs:∀s ∈ X.take N,1≤ns.getD s 0) (i:Nat):wA L Cc ns X N i<2^L:=h.laid.A' hs i
theorem ke.first (h:ke L Cc ns S TT) (hN:N≤X.length) (hs:∀s ∈ X.take N,1≤ns.getD s 0) (hi:i<N) (h2:N≤i+2):S.getD (eF ns (X.getD i 0)) 0=wA L Cc ns X N i+2^L:=by
  have hl:(X.take N).length=N:=by rw[List.length_take];omega
  have h1:=(h.some hN hs hi).1;have h3:=h.st (X.getD i 0) 0 Om;rw[Nat.add_zero] at h3;rw[h3,wA,vo i (X.take N) Om Om,ug hi,Nat.add_comm]
theorem ke.next (h:ke L Cc ns S TT) (hN:N≤X.length) (hs:∀s ∈ X.take N,1≤ns.getD s 0) (hi:i+2<N):
    S.getD (eF ns (X.getD i 0)+((wA L Cc ns X N (i+2)+2^L)/2^bl L (ns.getD (X.getD i 0) 0) (wA L Cc ns X N (i+2)+2^L)-ns.getD (X.getD i 0) 0)) 0=wA L Cc ns X N i+2^L:=by
  have hl:(X.take N).length=N:=by rw[List.length_take];omega
  obtain⟨h1,h2⟩:=h.some hN hs (i:=i) Om;have hw:=h.Wd hs (i+2);obtain⟨e1,e2,e3⟩:=mC h1 (Nat.le_of_lt h2) (c:=wA L Cc ns X N (i+2)+2^L) ⟨Om,by rw[Nat.pow_succ];omega⟩;rw[h.st _ _ Om];have e4:=tT (L:=L) (C:=Cc) (ns:=ns) i (X.take N) Om;rw[ug (show i<N by omega)] at e4;unfold CM at e4;rw[show wA L Cc ns X N i=_ from e4,Nat.add_comm]
  rfl
theorem lC.begin (hN:N≤X.length) {P:List Nat} (hP:Bytes P) (hk:P.length=k) (hV:tailV P 0 k=V0) (hi:N≤i+2):lC L Cc ns X N k V0 P 0 0 i:=by
  subst hk;obtain⟨e1,e2⟩:=sr (T:=buildD L Cc ns) (at_:=encA L Cc ns (X.take N)) (i:=i) (by rw[ic,List.length_take];omega);unfold lC;rw[e1,e2];exact⟨hP,Od,Od,Om,(by rw[hV])⟩
theorem lC.step (h:ke L Cc ns S TT) (hN:N≤X.length) (hs:∀s ∈ X.take N,1≤ns.getD s 0) {P:List Nat} {C nb:Nat} (hw:lC L Cc ns X N k V0 P C nb (i+1)) (hi:i+2<N) (hb:nb≤56):
    lC L Cc ns X N k V0 P (C+(wA L Cc ns X N (i+2)+2^L)%2^bl L (ns.getD (X.getD i 0) 0) (wA L Cc ns X N (i+2)+2^L)*2^nb) (nb+bl L (ns.getD (X.getD i 0) 0) (wA L Cc ns X N (i+2)+2^L)) i:=by
  have hl:(X.take N).length=N:=by rw[List.length_take];omega
  obtain⟨h1,h2⟩:=h.some hN hs (i:=i) Om;have hwl:=h.Wd hs (i+2);obtain⟨e1,e2,e3⟩:=mC h1 (Nat.le_of_lt h2) (c:=wA L Cc ns X N (i+2)+2^L) ⟨Om,by rw[Nat.pow_succ];omega⟩;obtain⟨b1,b2⟩:=h.laid.bits hs (i:=i) Om;rw[ug (show i<N by omega)] at b1 b2;have hlg:=h.lg;unfold lC at hw ⊢;have ha:=hw.add (x:=(wA L Cc ns X N (i+2)+2^L)%2^bl L (ns.getD (X.getD i 0) 0) (wA L Cc ns X N (i+2)+2^L)) (Nat.mod_lt _ (Nat.two_pow_pos _)) Om;rw[b1,b2];have e4:∀a b c d e f:Nat,nS P a b c d→c=e→d=f→nS P a b e f:=fun a b c d e f h h1 h2=>h1▸h2▸h
  refine e4 _ _ _ _ _ _ ha (by show 8*k+_+bl _ _ (wA L Cc ns X N (i+2)+2^L)=8*k+(bl _ _ (wA L Cc ns X N (i+2)+2^L)+_);omega) ?_;rw[Nat.add_mul, ←Nat.add_assoc,Nat.add_right_comm,Nat.mul_assoc, ←Nat.pow_add];congr 3;rw[Nat.add_comm]
theorem lC.lt {P:List Nat} {C nb:Nat} (h:lC L Cc ns X N k V0 P C nb i):C<2^nb:=nS.lt h
theorem G8 (h:ke L Cc ns S TT) {n c:Nat} (h1:1≤n) (hn:n<2^L) (hc:2^L≤c∧c<2^(L+1)):bl L n c≤6:=by
  have:=(mC h1 (Nat.le_of_lt hn) hc).1;rcases h.lg with rfl|rfl<;>omega
theorem Db (h:ke L Cc ns S TT) (hN:N≤X.length) (hs:∀s ∈ X.take N,1≤ns.getD s 0):∀d i,N-i=d→fN (buildD L Cc ns) ((encA L Cc ns (X.take N)).drop i)≤6*d
  |0,i,hd=>by
    have:=(sr (T:=buildD L Cc ns) (at_:=encA L Cc ns (X.take N)) (i:=i) (by rw[ic,List.length_take];omega)).1;omega
  |d+1,i,hd=>by
    have hl:(X.take N).length=N:=by rw[List.length_take];omega
    have ih:=Db h hN hs d (i+1) Om;rcases Nat.lt_or_ge (i+2) N with h2|h2
    · obtain⟨b1,b2⟩:=h.laid.bits hs (i:=i) Om;obtain⟨h3,h4⟩:=h.some hN hs (i:=i) Om;rw[ug (show i<N by omega)] at b1;have hw:=h.Wd hs (i+2);have:=G8 h (n:=ns.getD (X.getD i 0) 0) (c:=(encA L Cc ns (X.take N)).getD (i+2) 0+2^L) h3 h4 ⟨Om,by rw[Nat.pow_succ];unfold wA at hw;omega⟩;omega
    · have:=(sr (T:=buildD L Cc ns) (at_:=encA L Cc ns (X.take N)) (i:=i) (by rw[ic,List.length_take];omega)).1;omega
end
def fT (c:Int × Nat):List Value:=[.int .i32 c.1,.int .u32 ((c.2:Nat):Int)]
theorem dX (c:Int × Nat):(fT c).length=2:=rfl
theorem alW (x:Nat):x&&&2=x/2%2*2:=by
  apply Nat.eq_of_testBit_eq;intro i;rw[Nat.testBit_and,show(2:Nat)=2^1 from rfl,Nat.testBit_two_pow,show x/2^1%2^1*2^1=2^1*(x/2^1%2^1) by rw[Nat.mul_comm],Nat.testBit_two_pow_mul,Nat.testBit_mod_two_pow,Nat.testBit_div_two_pow];rcases Nat.lt_or_ge i 1 with h|h
  · have:i=0:=Om;subst this;simp
  · rcases Nat.lt_or_ge 1 i with h2|h2
    · rw[show decide (1=i)=false by simp;omega,show decide (i-1<1)=false by simp;omega];simp
    · have:i=1:=Om;subst this;simp
section
variable {L:Nat} {Cc ns S X:List Nat} {TT:List (Int × Nat)} {N i i1 i2 k V0:Nat}
theorem ke.jS (h:ke L Cc ns S TT) {x:Nat} (hx:1≤ns.getD x 0):Value.agg (fT (TT.getD x (0,0))).toArray=Value.agg #[.int .i32 (((eF ns x:Nat):Int)-((ns.getD x 0:Nat):Int)),.int .u32 ((kZ L (ns.getD x 0):Nat):Int)]:=by
  rw[h.tt x hx];rfl
theorem ke.qn (h:ke L Cc ns S TT) (hN:N≤X.length) (hs:∀s ∈ X.take N,1≤ns.getD s 0) (hi:i2<N) (h2:i2=i+2):
    S.getD (eF ns (X.getD i 0)+((wA L Cc ns X N i2+2^L)/2^bl L (ns.getD (X.getD i 0) 0) (wA L Cc ns X N i2+2^L)-ns.getD (X.getD i 0) 0)) 0=wA L Cc ns X N i+2^L:=by
  subst h2;exact h.next hN hs hi
theorem lC.qq (h:ke L Cc ns S TT) (hN:N≤X.length) (hs:∀s ∈ X.take N,1≤ns.getD s 0) {P:List Nat} {C nb:Nat} (hw:lC L Cc ns X N k V0 P C nb i1) (hi:i2<N) (h1:i1=i+1) (h2:i2=i+2) (hb:nb≤56):
    lC L Cc ns X N k V0 P (C+(wA L Cc ns X N i2+2^L)%2^bl L (ns.getD (X.getD i 0) 0) (wA L Cc ns X N i2+2^L)*2^nb) (nb+bl L (ns.getD (X.getD i 0) 0) (wA L Cc ns X N i2+2^L)) i:=by
  subst h1;subst h2;exact hw.step h hN hs hi hb
theorem ke.pA (h:ke L Cc ns S TT) (hs:∀s ∈ X.take N,1≤ns.getD s 0) (i:Nat):2^L≤wA L Cc ns X N i+2^L∧wA L Cc ns X N i+2^L<2^(L+1):=by
  have:=h.Wd (X:=X) (N:=N) hs i;rw[Nat.pow_succ];omega
theorem ke.RF (h:ke L Cc ns S TT) (hs:∀s ∈ X.take N,1≤ns.getD s 0) (i:Nat):wA L Cc ns X N i+2^L<65536:=by
  have:=h.Wd (X:=X) (N:=N) hs i;rcases h.lg with rfl|rfl<;>omega
theorem lC.small (h:ke L Cc ns S TT) (hN:N≤X.length) (hs:∀s ∈ X.take N,1≤ns.getD s 0) (hk:k≤1000) (zh:N≤255) (i:Nat):8*k+fN (buildD L Cc ns) ((encA L Cc ns (X.take N)).drop i)≤10000:=by
  have:=Db h hN hs (N-i) i rfl;omega
theorem lC.Lj (h:ke L Cc ns S TT) (hN:N≤X.length) (hs:∀s ∈ X.take N,1≤ns.getD s 0) (hi:i<N) (j:Nat):bl L (ns.getD (X.getD i 0) 0) (wA L Cc ns X N j+2^L)≤6:=by
  obtain⟨h1,h2⟩:=h.some hN hs hi;exact G8 h h1 h2 (h.pA hs j)
theorem lC.fin (h:ke L Cc ns S TT) (hs:∀s ∈ X.take N,1≤ns.getD s 0) {P:List Nat} {m n V:Nat} (hi0:i=0) (Rv:i1=i+1)
    (hn:n=8*k+fN (buildD L Cc ns) ((encA L Cc ns (X.take N)).drop i)+L+L) (hV:V=V0+fR (buildD L Cc ns) ((encA L Cc ns (X.take N)).drop i)*2^(8*k)+(wA L Cc ns X N i1+2^L)%2^L*2^(8*k+fN (buildD L Cc ns) ((encA L Cc ns (X.take N)).drop i))+(wA L Cc ns X N i+2^L)%2^L*2^(8*k+fN (buildD L Cc ns) ((encA L Cc ns (X.take N)).drop i)+L))
    (hm:m=(n+1+7)/8) (ht:tailV P 0 m=2^n+V):
    m=k+(2*L+fN (buildD L Cc ns) (encA L Cc ns (X.take N)))/8+1∧tailV P 0 m=V0+2^(8*k)*(2^(2*L+fN (buildD L Cc ns) (encA L Cc ns (X.take N)))+(((encA L Cc ns (X.take N)).getD 0 0*2^L+(encA L Cc ns (X.take N)).getD 1 0)*2^fN (buildD L Cc ns) (encA L Cc ns (X.take N))+fR (buildD L Cc ns) (encA L Cc ns (X.take N)))):=by
  subst hi0;subst Rv;rw[List.drop_zero] at hn hV;have e0:(wA L Cc ns X N 0+2^L)%2^L=(encA L Cc ns (X.take N)).getD 0 0:=by rw[Nat.add_mod_right];exact Nat.mod_eq_of_lt (h.Wd hs 0)
  have e1:(wA L Cc ns X N (0+1)+2^L)%2^L=(encA L Cc ns (X.take N)).getD 1 0:=by rw[Nat.add_mod_right];exact Nat.mod_eq_of_lt (h.Wd hs _)
  rw[e0,e1] at hV;obtain⟨f,hf⟩:∃z,z=fN (buildD L Cc ns) (encA L Cc ns (X.take N)):=⟨_,rfl⟩;obtain⟨r,hr⟩:∃z,z=fR (buildD L Cc ns) (encA L Cc ns (X.take N)):=⟨_,rfl⟩;obtain⟨a0,Jf⟩:∃z,z=(encA L Cc ns (X.take N)).getD 0 0:=⟨_,rfl⟩;obtain⟨a1,PW⟩:∃z,z=(encA L Cc ns (X.take N)).getD 1 0:=⟨_,rfl⟩;rw[←hf] at hn hV ⊢;rw[←hr] at hV ⊢;rw[←Jf, ←PW] at hV ⊢;refine⟨Om,?_⟩;rw[ht,hV,hn];rw[show 8*k+f+L+L=8*k+(2*L+f) by omega,show 8*k+f+L=8*k+(L+f) by omega];simp only[Nat.pow_add,Nat.mul_add,Nat.add_mul,Nat.two_mul];have g1:2^(8*k)*(a0*2^L*2^f)=a0*(2^(8*k)*(2^L*2^f)):=by ac_rfl
  have g2:2^(8*k)*(a1*2^f)=a1*(2^(8*k)*2^f):=by ac_rfl
  rw[g1,g2,Nat.mul_comm (2^(8*k)) r];omega
end
def Lz (L sz:Nat):Prop:=(L=5∧sz=32)∨(L=6∧sz=64)
section
variable {L sz:Nat}
theorem Lz.pow (h:Lz L sz):sz=2^L:=by rcases h with ⟨rfl,rfl⟩|⟨rfl,rfl⟩<;>rfl
theorem Lz.shl (h:Lz L sz):1*2^L%4294967296=sz:=by rcases h with ⟨rfl,rfl⟩|⟨rfl,rfl⟩<;>rfl
theorem Lz.RG (h:Lz L sz) (x:Nat):x&&&(sz-1)=x%sz:=by
  rcases h with ⟨rfl,rfl⟩|⟨rfl,rfl⟩
  · exact Nat.and_two_pow_sub_one_eq_mod x 5
  · exact Nat.and_two_pow_sub_one_eq_mod x 6
theorem Lz.half (h:Lz L sz):1*2^(L-1)≤32:=by rcases h with ⟨rfl,rfl⟩|⟨rfl,rfl⟩<;>decide
theorem Lz.one (h:Lz L sz):1*2^L≤64∧1*2^L=sz:=by rcases h with ⟨rfl,rfl⟩|⟨rfl,rfl⟩<;>decide
theorem Lz.step (h:Lz L sz):fk sz≤43∧sz/2^1+sz/2^3+3≤43:=by rcases h with ⟨rfl,rfl⟩|⟨rfl,rfl⟩<;>decide
theorem Lz.alX (h:Lz L sz):L*2^16%4294967296-sz=kZ L 1:=by rcases h with ⟨rfl,rfl⟩|⟨rfl,rfl⟩<;>rfl
end
theorem RH (n:Nat):(List.replicate n ([.int .i32 ((0:Nat):Int),.int .u32 ((0:Nat):Int)]:List Value)).flatten=rows fT (List.replicate n (0,0)):=by
  induction n with
  |zero=>rfl
  |succ n ih=>simp only[List.replicate_succ,List.flatten_cons,rows,List.flatMap_cons] at ih ⊢;rw[ih];rfl
theorem uh {ns M:List Nat} {i x:Nat} (h:∀j,j≤i→M.getD j 0=eF ns j) (hi:i+1<M.length) (hx:x=M.getD i 0+ns.getD i 0):∀j,j≤i+1→(M.set (i+1) x).getD j 0=eF ns j:=fun j hj=>by
  rw[aM hi];split
  · rename_i e;subst e;rw[hx,h i (Nat.le_refl _),eg]
  · exact h j Om
theorem n5.begin {C ns M:List Nat} {n y:Nat} (h:∀j,j≤n→M.getD j 0=eF ns j) (hn:ns.length=n) (hM:n<M.length):n5 C ns (M.set n y) 0:=fun s hs=>by
  rw[aM hM,if_neg Om,h s Om];simp
theorem tU.begin {Z:Nat} {C ns S:List Nat}:tU Z C ns S 0:=fun w hw=>by omega
theorem tU.Lk {Z u c:Nat} {C ns S M:List Nat} (h:tU Z C ns S u) (hC:n5 C ns M u) (ri:∀x,C.count x=ns.getD x 0) (hu:u<C.length) (hc:c=C.getD u 0) (We:c<ns.length) (hS:M.getD c 0<S.length):tU Z C ns (S.set (M.getD c 0) (Z+u)) (u+1):=by
  subst hc;rw[hC _ We] at hS ⊢;exact h.step ri hu hS
theorem n5.Lk {u c:Nat} {C ns M:List Nat} (h:n5 C ns M u) (hu:u<C.length) (hc:c=C.getD u 0) (ks:c<ns.length) (hM:ns.length≤M.length):n5 C ns (M.set c (M.getD c 0+1)) (u+1):=by
  subst hc;exact h.step hu ks hM
theorem n5.lt {u c:Nat} {C ns M:List Nat} (h:n5 C ns M u) (ri:∀x,C.count x=ns.getD x 0) (hu:u<C.length) (hc:c=C.getD u 0) (ks:c<ns.length):M.getD c 0<ns.sum:=by
  subst hc;rw[h _ ks];have h1:=nK ri hu;have h2:=l7 (ns:=ns) (s:=C.getD u 0+1);rw[eg] at h2;omega
def yg (L:Nat) (ns:List Nat) (TT:List (Int × Nat)) (i:Nat):Prop:=∀s,s<i→1≤ns.getD s 0→TT.getD s (0,0)=(((eF ns s:Nat):Int)-((ns.getD s 0:Nat):Int),kZ L (ns.getD s 0))
section
variable {L i:Nat} {ns:List Nat} {TT:List (Int × Nat)}
theorem yg.begin:yg L ns TT 0:=fun s h=>by omega
theorem yg.skip (h:yg L ns TT i) (h0:ns.getD i 0=0):yg L ns TT (i+1):=fun s hs h1=>by
  rcases Nat.lt_or_eq_of_le (Nat.le_of_lt_succ hs) with h2|h2
  · exact h s h2 h1
  · subst h2;omega
theorem yg.put (h:yg L ns TT i) (hi:i<TT.length) {x:Nat} {y z:Int} (hx:x=kZ L (ns.getD i 0)) (hy:y=((eF ns i:Nat):Int)-((ns.getD i 0:Nat):Int)):yg L ns ((TT.set i (z,x)).set i (y,((TT.set i (z,x)).getD i (0,0)).2)) (i+1):=fun s hs h1=>by
  rw[List.set_set];have e:((TT.set i (z,x)).getD i (0,0)).2=x:=by simp[List.getD_eq_getElem?_getD,hi]
  rw[e];rcases Nat.lt_or_eq_of_le (Nat.le_of_lt_succ hs) with h2|h2
  · have:(TT.set i (y,x)).getD s (0,0)=TT.getD s (0,0):=by simp[List.getD_eq_getElem?_getD,List.getElem?_set,show¬i=s by omega]
    rw[this];exact h s h2 h1
  · subst h2;have:(TT.set s (y,x)).getD s (0,0)=(y,x):=by simp[List.getD_eq_getElem?_getD,hi]
    rw[this,hx,hy]
end
theorem ke.mk' {L sz:Nat} {P:List Int} {S:List Nat} {TT:List (Int × Nat)} (hC:cp L P) (hL:Lz L sz) (hS:tU sz (dA L P) (a8 P) S sz) (hT:yg L (a8 P) TT P.length) (ht:TT.length=256) (hs:S.length=sz):ke L (dA L P) (a8 P) S TT:=by
  have hl:=hC.laid;have hp:=hL.pow;refine⟨hl,hC.lg,fun s j hj=>?_,fun s h1=>?_,ht,by rw[hs,hp],hC.sum⟩
  · rw[hp, ←hl.len] at hS;have:=hS.get hl.VW hj;rw[this,hl.len]
  · refine hT s ?_ h1;apply Classical.byContradiction;intro hn;rw[Da Om] at h1;omega
theorem G9 {L n:Nat} (hn:n≠1):kZ L n=(L-(av (n-1)-1))*65536-n*2^(L-(av (n-1)-1)):=by unfold kZ;rw[if_neg hn]
theorem Wf {L sz:Nat} {P:List Int} (hC:cp L P) (hL:Lz L sz):(a8 P).sum=sz:=by rw[hC.sum,hL.pow]
theorem Dc {L sz:Nat} {P:List Int} (hC:cp L P) (hL:Lz L sz) (s:Nat): -1≤P.getD s 0∧P.getD s 0<sz:=by
  have:=hC.at_ s;rw[hL.pow]
  push_cast
  exact this
theorem TV {m:Nat} (h:m≤100):m*2^16%4294967296=m*65536:=by
  rw[show(2:Nat)^16=65536 from rfl];exact Nat.mod_eq_of_lt Om
theorem fO.cast {α:Type} {size m k j j':Nat} {all G:Nat→α} (e:j=j') (h:fO size m all G k j):fO size m all G k j':=e▸h
end Go.Proofs.YtekcchgffhphbaaGreatDoor
