/- The walk's own engine and plain laws of numbers, bits and codes, part 1. -/
import Derived.Test.YtekcchgffhphbaaGreatDoorP0
import Derived.Still
set_option linter.unusedVariables false
set_option linter.unusedSimpArgs false
namespace Go.Proofs.YtekcchgffhphbaaGreatDoor
theorem Bytes.ate (n:Nat):Bytes (List.replicate n 0):=fun y hy=>by rw[List.mem_replicate] at hy;omega
theorem xj (Z:List Int) (i:Nat):(Z.map Int.toNat).getD i 0=(Z.getD i 0).toNat:=by
  grind
theorem oA.app {a b:List Nat} (ha:oA a) (hb:oA b):oA (a++b):=fun x hx=>(List.mem_append.1 hx).elim (ha x) (hb x)
theorem qy (dk v:Nat):oA (im dk v):=by
  grind [im,j4]
theorem lM:∀m,oA (zerosB m)
  |0=>j4 _ _
  |1=>j4 _ _
  |2=>j4 _ _
  |m+3=>oA.app (j4 3 2) (lM m)
theorem k7 {α:Type} {d r:α} {T F:List α} {u:Nat} (h:∀j,j<u→T.getD j d=F.getD j d) (hu:u<T.length) (hr:F.getD u d=r):∀j,j<u+1→(T.set u r).getD j d=F.getD j d:=fun j hj=>by
  grind
theorem Ah {α:Type} {d:α} {T F:List α} {u:Nat} (h:∀j,j<u→T.getD j d=F.getD j d) (hl:T.length=F.length) (hu:T.length≤u):T=F:=by
  apply List.ext_getElem hl;intro i h1 h2;have:=h i Om;grind
theorem mF {α:Type} {Z:List α} {d v:α} {i p:Nat} (h:i<Z.length):(Z.set i v).getD p d=if p=i then v else Z.getD p d:=by
  grind
theorem u5 {α:Type} {Z:List α} {d v:α} {i p:Nat} (hp:p≠i):(Z.set i v).getD p d=Z.getD p d:=by
  grind
structure Lr (T:List Cell) (text ys:List Nat):Prop where
  ex:∃A,lk 6 T text A∧Bytes ys∧ys.length=(12+fN T A)/8+1∧tailV ys 0 ((12+fN T A)/8+1)=2^(12+fN T A)+((A.getD 0 0*2^6+A.getD 1 0)*2^fN T A+fR T A)
structure acb (cs H:List Nat):Prop where
  ex:∃E,Descr 64 cs E∧Bytes H∧H.length=(4+E.length+7)/8∧tailV H 0 ((4+E.length+7)/8)=lowV (eA 1 4++E)∧E.length≤16*cs.length
  sum:cs.sum=64
  two:1<nzc cs
structure acd (cs text ys:List Nat):Prop where
  cB:W9 6 cs
  ex:∃H B,ys=H++B∧acb cs H∧Lr (ab9 6 cs) text B
def u6 (L n:Nat):Nat:=if n=0 then 0 else L+1-n
def bM (ls:List Nat) (L last:Nat):List Nat:=(ls.take last).map (u6 L)
structure HW (ls:List Nat) (L last:Nat):Prop where
  le:dY ls L
  at_:∃p,p<ls.length∧ls.getD p 0=L
  lt:last<ls.length
  nz:ls.getD last 0≠0
  z:∀p,last<p→ls.getD p 0=0
theorem j5 {ls:List Nat} {L last:Nat} (h:last≤ls.length):(bM ls L last).length=last:=by simp[bM];omega
theorem zx {ls:List Nat} {L last p:Nat} (h:last≤ls.length) (hp:p<last):(bM ls L last).getD p 0=u6 L (ls.getD p 0):=by
  grind [bM]
theorem tu {ls:List Nat} {L last:Nat}:dY (bM ls L last) L:=fun x hx=>by
  obtain⟨n,_,rfl⟩:=List.mem_map.1 hx;grind [u6]
def nib:List Nat→List Nat
  |a::b::r=>(a*16+b)::nib r
  |[a]=>[a*16]
  |[]=>[]
theorem rU:∀xs:List Nat,(nib xs).length=(xs.length+1)/2
  |[]=>by simp[nib]
  |[a]=>by simp[nib]
  |a::b::r=>by simp only[nib,List.length_cons,rU r];omega
theorem ajU (a x:Nat) (h:x<16):a*16|||x=a*16+x:=by
  have:=Nat.two_pow_add_eq_or_of_lt (i:=4) (b:=x) h a;grind
structure ajV (ls ys:List Nat):Prop where
  ex:∃L last,HW ls L last∧last≤128∧ys=[127+last]++nib (bM ls L last)
structure ajW (ls ys:List Nat):Prop where
  ex:∃L last cs b,HW ls L last∧cs.length=13∧dY cs 63∧acd cs (bM ls L last) b∧b.length≤127∧ys=[b.length]++b
theorem fit {C:List Nat} {k v w:Nat} (h:dY C w) (hv:v≤w):dY (C.set k v) w:=fun y hy=>by
  rcases List.mem_or_eq_of_mem_set hy with h1|h1
  · exact h y h1
  · omega
theorem Ai:∀xs:List Nat,dY xs 15→Bytes (nib xs)
  |[],_=>fun x hx=>by simp[nib] at hx
  |[a],h=>fun x hx=>by
    have:=h a Oi;grind [nib]
  |a::b::r,h=>fun x hx=>by
    have h1:=h a Oi;have h2:=h b Oi;simp only[nib,List.mem_cons] at hx;rcases hx with hx|hx
    · omega
    · exact Ai r (fun y hy=>h y (by simp[hy])) x hx
end Go.Proofs.YtekcchgffhphbaaGreatDoor
namespace Go.Proofs.YtekcchgffhphbaaGreatDoor
open Go
end Go.Proofs.YtekcchgffhphbaaGreatDoor
namespace Go.Proofs.YtekcchgffhphbaaGreatDoor
def Aj (xs:List Nat) (len p:Nat) (bs:List Nat):Prop:=(p+bs.length+7)/8≤len∧tailV xs 0 len/2^p%2^bs.length=lowV bs
theorem Aj.take {xs bs:List Nat} {len p v n:Nat} (h:Aj xs len p (eA v n++bs)) (hb:Bytes xs):bitsN xs p n=v%2^n∧Aj xs len (p+n) bs∧(p+n+7)/8≤len:=by
  obtain⟨h1,h2⟩:=h;rw[List.length_append,bD] at h1 h2;have hf:(p+n+7)/8≤len:=Om;rw[ga,fU,bD,Nat.pow_add] at h2;have eV:v%2^n<2^n:=Nat.mod_lt _ (Nat.pow_pos Om);refine⟨?_,⟨Om,?_⟩,hf⟩
  · rw[xI hb n hf];have:=congrArg (· %2^n) h2;simp only[Nat.mod_mul_right_mod,Nat.add_mul_mod_self_left] at this;simp_all
  · have:=congrArg (· /2^n) h2;simp only[Nat.mod_mul_right_div_self] at this;rw[Nat.pow_add, ←Nat.div_div_eq_div_mul,this,Nat.add_mul_div_left _ _ (Nat.pow_pos Om),Nat.div_eq_of_lt eV,Nat.zero_add]
theorem Aj.skip {xs a bs:List Nat} {len p:Nat} (h:Aj xs len p (a++bs)) (ha:oA a):Aj xs len (p+a.length) bs:=by
  obtain⟨h1,h2⟩:=h;rw[List.length_append] at h1 h2;rw[ga,Nat.pow_add] at h2;refine⟨Om,?_⟩;have:=congrArg (· /2^a.length) h2;simp only[Nat.mod_mul_right_div_self] at this;rw[Nat.pow_add, ←Nat.div_div_eq_div_mul,this,Nat.add_mul_div_left _ _ (Nat.pow_pos Om),Nat.div_eq_of_lt (wT ha),Nat.zero_add]
theorem Aj.ace {xs bs:List Nat} {len:Nat} (hl:(bs.length+7)/8≤len) (h:tailV xs 0 len%2^bs.length=lowV bs):Aj xs len 0 bs:=⟨Om,by rw[Nat.pow_zero,Nat.div_one];exact h⟩
end Go.Proofs.YtekcchgffhphbaaGreatDoor
namespace Go.Proofs.YtekcchgffhphbaaGreatDoor
open Go
section
variable {P:Program} {fn:Func} {dz:Value→List au→Prop} {l0 l r:List au} {w0:World} {n:Nat} {p rest:List au} {ρ:aB}
theorem By {w:World} {vs:List Value} {t:TypeId} {b q:Nat} (hP:mv P t=some true) (hz:eW P t=some vs.length) (h:∀j,j<vs.length→w.cell? ⟨b,q+j,none⟩=some (vs.getD j undef)):(loadVar t ⟨b,q,none⟩).run P w=.ok (.agg vs.toArray) w:=by
  have:=run_loadCellsFrom (P:=P) (w:=w) ⟨b,q,none⟩ vs.length 0 vs.toArray #[] (fun j hj=>by rw[df,Nat.zero_add,h j hj];simp) Oi;simp[loadVar,qn hP,cH hz,loadCells,this]
end
section
variable {P:Program} {ρ:aB} {o:Oper} {t:TypeId} {n sz:Nat}
end
def fD (c:Nat × Nat × Nat):List Value:=[.int .u16 ((c.2.2:Nat):Int),.int .u8 ((c.1:Nat):Int),.int .u8 ((c.2.1:Nat):Int)]
theorem fy (c:Nat × Nat × Nat):(fD c).length=3:=rfl
theorem Xd {T:List (Nat × Nat × Nat)} {i:Nat} (h:i<T.length):(rows fD T)[i*3]? =some (.int .u16 (((T.getD i (0,0,0)).2.2:Nat):Int)):=mB (e:=0) fy (0,0,0) h Od
theorem JV {T:List (Nat × Nat × Nat)} {i:Nat} (h:i<T.length):(rows fD T)[i*3+1]? =some (.int .u8 (((T.getD i (0,0,0)).1:Nat):Int)):=mB fy (0,0,0) h Od
theorem JW {T:List (Nat × Nat × Nat)} {i:Nat} (h:i<T.length):(rows fD T)[i*3+2]? =some (.int .u8 (((T.getD i (0,0,0)).2.1:Nat):Int)):=mB fy (0,0,0) h Od
theorem Xe (n:Nat):(List.replicate n ([.int .u16 ((0:Nat):Int),.int .u8 ((0:Nat):Int),.int .u8 ((0:Nat):Int)]:List Value)).flatten=rows fD (List.replicate n (0,0,0)):=by
  induction n with
  |zero=>rfl
  |succ n ih=>simp only[List.replicate_succ,List.flatten_cons,rows,List.flatMap_cons] at ih ⊢;rw[ih];rfl
theorem On (W:List Nat) (j:Nat):cQ W j []=W:=by simp[cQ]
section
variable {P:Program} {K:Kx} {Q:Exit→Act→World→Prop} {ρ:aB} {l r:List au} {o:Oper} {t n m cap q d:Nat} {k:IntKind}
theorem ny {ca:Call} {q2:Option Addr} {c2 e mW:Nat} {zs:List Value} {W ys:List Nat} {sg:au} (i j:Nat) (ho:o.op=.call ca) (hc:ca.callee=.builtin .append) (f':evs ρ ca.args.toList=some [.slice (some ⟨sg.b,q,none⟩) n cap,.slice q2 m c2]) (uB:ca.argTypes= #[t,t]) (hP:ez P t=some (e,zs,1,mW)) (hz:zs.length=1)
    (hs:nthS i l=some sg) (hq:q=sg.o+j) (zu:sg.cs=aa k W∧j+n+m≤W.length) (nk:Src l r q2 (aa k ys)) (hn:n+m≤cap∧ys.length=m) (hd:o.dst=some d) (rG:Nat.blt d K.n=true):
    kC P K ρ l r o (fun ρ' l'=>ρ'=(d,.slice (some ⟨sg.b,q,none⟩) (n+m) cap)::ρ∧l'=setS i ⟨sg.b,sg.o,aa k (cQ W (j+n) ys),sg.sh⟩ l):=by
  intro a w ha nx Q mf;obtain⟨jm,hlen⟩:=hn;obtain⟨b,o',cs,sh⟩:=sg;simp only at zu hq f' hs ⊢;obtain⟨rfl,hj⟩:=zu;subst hq;obtain⟨i',zv,hu,hi,rM,lK,vL,DD⟩:=gq hP;have rN:∀w,(sizeOf e).run P w=.ok 1 w:=cH (by simp[eW,hi,vL]);have iJ:=kK ha.fr f';have WZ:∀u ∈ aa k ys,u.oneCell'=true:=fun u hu=>List.all_eq_true.1 (ep ys) u hu
  have kE:∀(u:Value) (w':World),(Builtin.append_ #[t,t] o.type #[.slice (some ⟨b,o'+j,none⟩) n cap,.slice q2 m c2]).run P w=.ok u w'→(execOp a.eval o).run P w=.ok (.value u) w':=fun u w' h=>by
    simp[execOp,ho,resolve,hc,iJ,invoke,builtin,uB,h]
  have Af:zv.cells.size=1:=by rw[←hz, ←lK];simp
  have hnl:(aa k ys).length=m*1:=by simp[hlen]
  unfold Oper.wp;have none_:m=0→nx (a.put (some d) (.slice (some ⟨b,o'+j,none⟩) (n+m) cap)) w:=fun hm=>by
    subst hm;have e0:ys=[]:=List.eq_nil_of_length_eq_zero hlen;subst e0;refine mf _ _ ⟨_,_,⟨rfl,rfl⟩,?_⟩;rw[On,gY i _ l hs];exact ha.put rG _
  by_cases MF:m=0
  · have DF:(Builtin.firstCells 1 0 (.slice q2 0 c2)).run P w=.ok #[] w:=by
      cases q2<;>simp[Builtin.firstCells,loadCells,loadCellsFrom]
    have hr:(Builtin.append_ #[t,t] o.type #[.slice (some ⟨b,o'+j,none⟩) n cap,.slice q2 0 c2]).run P w=.ok (.slice (some ⟨b,o'+j,none⟩) (n+0) cap) w:=by
      simp[Builtin.append_,aK hu,rN,Builtin.lenOf,show n≤cap by omega,DF,storeCells]
    have ajX:=none_ MF;subst MF;rw[kE _ _ hr];simp only[Oper.upon,hd];exact ajX
  · rcases nk.cells ha with DE|⟨ad,N6,jn⟩
    · grind
    · subst N6;have DF:=run_firstCells_some (P:=P) w 1 m ad m c2 (aa k ys) hnl jn;obtain⟨w',W4,hA⟩:=fP (P:=P) (aa k ys) 0 (j+n) l w ⟨b,o',aa k W,sh⟩ i b (o'+j+n) ha hs rfl (by show o'+j+n=o'+(j+n);omega) Oz WZ;have hr:(Builtin.append_ #[t,t] o.type #[.slice (some ⟨b,o'+j,none⟩) n cap,.slice (some ad) m c2]).run P w=.ok (.slice (some ⟨b,o'+j,none⟩) (n+m) cap) w':=by
        simp[Builtin.append_,aK hu,rN,Builtin.lenOf,jm,DF,df,W4]
      rw[kE _ _ hr];simp only[Oper.upon,hd];refine mf _ _ ⟨_,_,⟨rfl,rfl⟩,?_⟩;have e1:=fm (k:=k) W ys (j+n) Om;rw[←e1];exact hA.put rG _
end
end Go.Proofs.YtekcchgffhphbaaGreatDoor
namespace Go.Proofs.YtekcchgffhphbaaGreatDoor
def sub (text:List Nat) (a m:Nat):List Nat:=(text.drop a).take m
theorem Oo {text:List Nat} {a m:Nat} (h:a<text.length) (hm:0<m):sub text a m=text.getD a 0::sub text (a+1) (m-1):=by
  unfold sub;obtain⟨m,rfl⟩:∃k,m=k+1:=⟨m-1,Om⟩;rw[List.drop_eq_getElem_cons h,List.take_succ_cons];simp[h]
theorem GB {text:List Nat} {a m:Nat} (h:a+m≤text.length):(sub text a m).length=m:=by simp[sub];omega
section
variable {xs dt:List Nat} {k len L:Nat} {cd:Nat→Nat × Nat} {S:Nat→Prop} {s:BR} {text:List Nat} {a m:Nat}
theorem aJ.ee (h:aJ xs k len cd S s (sub text a m)) (hT:wD dt L cd S) (hb:Bytes xs) (ham:a<text.length∧0<m) (hr:s.rd+L≤64∨s.off=0):
    ∃c n p,c=text.getD a 0∧s.val/2^(64-L)=p∧dt.getD p 0=n+256*c∧p<2^L∧c<256∧1≤n∧n≤L∧s.rd+n≤64∧tN cd (sub text a m)=n+tN cd (sub text (a+1) (m-1))∧aJ xs k len cd S (s.adv n) (sub text (a+1) (m-1)):=by
  rw[Oo ham.1 ham.2] at h ⊢;obtain⟨n,p,h1,h2,h3,h4,h5,h6,h7,h8,h9⟩:=h.get hT hb hr;grind
theorem aJ.wU {B:Nat} (h:aJ xs k len cd S s (sub text a m)) (hT:wD dt L cd S) (hB:L≤B) (ham:a+m≤text.length):tN cd (sub text a m)≤B*m∧m≤tN cd (sub text a m):=by
  have:=jo hT hB h.all;grind [GB]
theorem aJ.ar {a' m':Nat} (h:aJ xs k len cd S s (sub text a m)) (e1:a=a') (e2:m=m'):aJ xs k len cd S s (sub text a' m'):=e1▸e2▸h
end
def Row (ys text:List Nat) (a n:Nat):Prop:=∀q,q<n→ys.getD q 0=text.getD (a+q) 0
theorem Row.zero {ys text:List Nat} {a:Nat}:Row ys text a 0:=fun q h=>by omega
theorem gz {xs:List Nat} {i j v:Nat} (h:i<xs.length):(xs.set i v).getD j 0=if i=j then v else xs.getD j 0:=by
  grind
theorem Row.set {ys text:List Nat} {a n c i:Nat} (h:Row ys text a n) (hn:n<ys.length) (hi:i=n) (hc:c=text.getD (a+n) 0):Row (ys.set i c) text a (n+1):=fun q hq=>by
  subst hi;rw[gz hn];split
  · grind
  · exact h q Om
def aI (ds text:List Nat) (a n:Nat):Prop:=∀p,a≤p→p<a+n→ds.getD p 0=text.getD p 0
theorem aI.zero {ds text:List Nat} {a:Nat}:aI ds text a 0:=fun p h1 h2=>by omega
theorem mG {ds ys:List Nat} {j p:Nat} (h:j+ys.length≤ds.length):(cQ ds j ys).getD p 0=if j≤p∧p<j+ys.length then ys.getD (p-j) 0 else ds.getD p 0:=by
  simp only[List.getD_eq_getElem?_getD,cQ];by_cases h1:p<j
  · grind
  · grind
theorem aI.iG {ds ys text:List Nat} {a n j a' m:Nat} (h:aI ds text a n) (hr:Row ys text a' m) (hj:j+m≤ds.length∧ys.length=m∧a'=j):aI (cQ ds j ys) text a n:=fun p h1 h2=>by
  rw[mG Om];split
  · rename_i e;rw[hr (p-j) Om];congr 1;omega
  · exact h p h1 h2
theorem aI.more {ds ys text:List Nat} {a n j a' m:Nat} (h:aI ds text a n) (hr:Row ys text a' m) (hj:j+m≤ds.length∧ys.length=m∧a'=j∧a+n=j):aI (cQ ds j ys) text a (n+m):=fun p h1 h2=>by
  rw[mG Om];split
  · rename_i e;rw[hr (p-j) Om];congr 1;omega
  · exact h p h1 Om
theorem aI.set {ds text:List Nat} {a n p c:Nat} (h:aI ds text a n) (hp:p<ds.length) (hc:c=text.getD p 0):aI (ds.set p c) text a n:=fun q h1 h2=>by
  rw[gz hp];split
  · grind
  · exact h q h1 h2
theorem aI.put {ds text:List Nat} {a n p c:Nat} (h:aI ds text a n) (hp:p<ds.length) (hc:c=text.getD p 0) (he:p=a+n):aI (ds.set p c) text a (n+1):=fun q h1 h2=>by
  rw[gz hp];split
  · grind
  · exact h q h1 Om
theorem aI.ar {ds text:List Nat} {a n a' n':Nat} (h:aI ds text a n) (e1:a=a') (e2:n=n'):aI ds text a' n':=e1▸e2▸h
theorem Row.take {ys text:List Nat} {a n m:Nat} (h:Row ys text a n) (hm:m≤n) (hl:n≤ys.length):Row ((ys.drop 0).take m) text a m∧((ys.drop 0).take m).length=m:=by
  refine⟨fun q hq=>?_,Oz⟩;rw[←h q Om];grind
theorem Row.ar {ys text:List Nat} {a n a' n':Nat} (h:Row ys text a n) (e1:a=a') (e2:n=n'):Row ys text a' n':=e1▸e2▸h
theorem Xf {ds text:List Nat} (hl:ds.length=text.length) (h:∀p,p<text.length→ds.getD p 0=text.getD p 0):ds=text:=by
  apply List.ext_getElem hl;grind
theorem acf {ds text:List Nat} {ev m3:Nat} (hl:ds.length=text.length) (hm:text.length=3*ev+m3) (h0:aI ds text (ev*0) ev) (h1:aI ds text (ev*1) ev) (h2:aI ds text (ev*2) ev) (h3:aI ds text (ev*3) m3):ds=text:=by
  refine Xf hl fun p hp=>?_
  rcases Nat.lt_or_ge p ev with h|h
  · exact h0 p Om Om
  rcases Nat.lt_or_ge p (2*ev) with h|h
  · exact h1 p Om Om
  rcases Nat.lt_or_ge p (3*ev) with h|h
  · exact h2 p Om Om
  · exact h3 p Om Om
theorem jt {x y n:Nat} (h:x=n%256∧y=n/256):x|||y*2^8=n:=by
  rw[eJ (n:=8) Om];omega
section
variable {P:Program} {K:Kx} {Q:Exit→Act→World→Prop} {ρ:aB} {l r:List au} {L rest:List Oper} {o:Oper}
theorem At.split {a:Act} {w:World} {b o o':Nat} {xs ys:List Value} {sh:Option (TypeId × Nat)} (h:At K ρ (⟨b,o,xs++ys,sh⟩::l) r a w) (ho:o'=o+xs.length):At K ρ (⟨b,o,xs,none⟩::⟨b,o',ys,none⟩::l) r a w:=by
  subst ho;have jO:=h.st.hl _ List.mem_cons_self;have pc:=List.pairwise_cons.1 h.st.pw;have hx:∀b' j:Nat,(⟨b,o,xs,none⟩:au).has b' j→(⟨b,o,xs++ys,sh⟩:au).has b' j:=fun b' j ⟨h1,h2,h3⟩=>⟨h1,h2,by simp at h3 ⊢;omega⟩
  have hy:∀b' j:Nat,(⟨b,o+xs.length,ys,none⟩:au).has b' j→(⟨b,o,xs++ys,sh⟩:au).has b' j:=fun b' j ⟨h1,h2,h3⟩=>⟨h1,by simp at h2 ⊢;omega,by simp at h2 h3 ⊢;omega⟩
  refine⟨h.size,h.defers,h.fr,h.keeps,⟨?_,h.st.hr,?_,?_⟩,?_⟩
  · intro u hu;rcases List.mem_cons.1 hu with h'|hu
    · subst h';refine⟨fun j v hj=>jO.1 j v ?_,fun j hj=>jO.2.1 j (by simp at hj ⊢;omega),fun x hx=>by cases hx⟩;grind
    · rcases List.mem_cons.1 hu with h'|hu
      · subst h';refine⟨fun j v hj=>?_,fun j hj=>?_,fun x hx=>by cases hx⟩
        · have:=jO.1 (xs.length+j) v (by
            grind)
          grind
        · have:=jO.2.1 (xs.length+j) (by simp at hj ⊢;omega);grind
      · exact h.st.hl u (List.mem_cons_of_mem _ hu)
  · refine List.Pairwise.cons (fun u hu=>?_) (List.Pairwise.cons (fun u hu=>?_) pc.2)
    · rcases List.mem_cons.1 hu with h'|hu
      · subst h';intro b' j h1 h2;have a1:=h1.2.2;have a2:=h2.2.1;grind
      · exact fun b' j h1 h2=>pc.1 u hu b' j (hx b' j h1) h2
    · exact fun b' j h1 h2=>pc.1 u hu b' j (hy b' j h1) h2
  · intro u hu t ht;rcases List.mem_cons.1 hu with h'|hu
    · subst h';exact fun b' j h1 h2=>h.st.lr _ List.mem_cons_self t ht b' j (hx b' j h1) h2
    · rcases List.mem_cons.1 hu with h'|hu
      · subst h';exact fun b' j h1 h2=>h.st.lr _ List.mem_cons_self t ht b' j (hy b' j h1) h2
      · exact h.st.lr u (List.mem_cons_of_mem _ hu) t ht
  · intro u hu b' j hh;rcases List.mem_cons.1 hu with h'|hu
    · subst h';exact h.own _ List.mem_cons_self b' j (hx b' j hh)
    · rcases List.mem_cons.1 hu with h'|hu
      · subst h';exact h.own _ List.mem_cons_self b' j (hy b' j hh)
      · exact h.own u (List.mem_cons_of_mem _ hu) b' j hh
theorem gM {b o o':Nat} {cs xs ys:List Value} {sh:Option (TypeId × Nat)} (i:Nat) (hi:nthS i l=some ⟨b,o,cs,sh⟩) (hc:cs=xs++ys) (ho:o'=o+xs.length) {a:Act} {w:World} (h:At K ρ l r a w):At K ρ (⟨b,o,xs,none⟩::⟨b,o',ys,none⟩::l.eraseIdx i) r a w:=by
  have hp:l.Perm (⟨b,o,cs,sh⟩::l.eraseIdx i):=by
    have h1:=iK i ⟨b,o,cs,sh⟩ _ l hi;grind [gY]
  subst hc;exact(h.perm hp).split ho
theorem G.gM {c:Code} {b o o':Nat} {cs xs ys:List Value} {sh:Option (TypeId × Nat)} (i:Nat) (hi:nthS i l=some ⟨b,o,cs,sh⟩) (hc:cs=xs++ys) (ho:o'=o+xs.length) (h:G P K Q c ρ (⟨b,o,xs,none⟩::⟨b,o',ys,none⟩::l.eraseIdx i) r):G P K Q c ρ l r:=
  fun a w ha=>h a w (YtekcchgffhphbaaGreatDoor.gM i hi hc ho ha)
theorem GQ.lists {e:Exit} {l':List au} (hl:l=l') (h:GQ K Q e ρ l' r):GQ K Q e ρ l r:=hl▸h
theorem G.lists {c:Code} {l':List au} (hl:l=l') (h:G P K Q c ρ l' r):G P K Q c ρ l r:=hl▸h
end
theorem dH {k:IntKind} {xs:List Nat} {n:Nat} (h:xs.length=n):((aa k xs).drop 0).take n=aa k xs:=by
  rw[List.drop_zero,List.take_of_length_le Oz]
theorem eB (k:IntKind) (m n x:Nat):aa k (List.replicate (m+n) x)=aa k (List.replicate m x)++aa k (List.replicate n x):=by
  simp_all [aa]
end Go.Proofs.YtekcchgffhphbaaGreatDoor
namespace Go.Proofs.YtekcchgffhphbaaGreatDoor
open Go
section
variable {P:Program} {K:Kx} {Q:Exit→Act→World→Prop} {ρ:aB} {l r:List au} {L rest:List Oper} {o:Oper}
theorem At.acg {a:Act} {w:World} {b o o':Nat} {xs ys:List Value} {sh:Option (TypeId × Nat)} (h:At K ρ (⟨b,o,xs++ys,sh⟩::l) r a w) (ho:o'=o+xs.length):At K ρ (⟨b,o,xs,sh⟩::⟨b,o',ys,none⟩::l) r a w:=by
  subst ho;have jO:=h.st.hl _ List.mem_cons_self;have pc:=List.pairwise_cons.1 h.st.pw;have hx:∀b' j:Nat,(⟨b,o,xs,sh⟩:au).has b' j→(⟨b,o,xs++ys,sh⟩:au).has b' j:=fun b' j ⟨h1,h2,h3⟩=>⟨h1,h2,by simp at h3 ⊢;omega⟩
  have hy:∀b' j:Nat,(⟨b,o+xs.length,ys,none⟩:au).has b' j→(⟨b,o,xs++ys,sh⟩:au).has b' j:=fun b' j ⟨h1,h2,h3⟩=>⟨h1,by simp at h2 ⊢;omega,by simp at h2 h3 ⊢;omega⟩
  refine⟨h.size,h.defers,h.fr,h.keeps,⟨?_,h.st.hr,?_,?_⟩,?_⟩
  · intro u hu;rcases List.mem_cons.1 hu with h'|hu
    · subst h';refine⟨fun j v hj=>jO.1 j v ?_,fun j hj=>jO.2.1 j (by simp at hj ⊢;omega),fun x hx=>jO.2.2 x hx⟩;grind
    · rcases List.mem_cons.1 hu with h'|hu
      · subst h';refine⟨fun j v hj=>?_,fun j hj=>?_,fun x hx=>by cases hx⟩
        · have:=jO.1 (xs.length+j) v (by
            grind)
          grind
        · have:=jO.2.1 (xs.length+j) (by simp at hj ⊢;omega);grind
      · exact h.st.hl u (List.mem_cons_of_mem _ hu)
  · refine List.Pairwise.cons (fun u hu=>?_) (List.Pairwise.cons (fun u hu=>?_) pc.2)
    · rcases List.mem_cons.1 hu with h'|hu
      · subst h';intro b' j h1 h2;have a1:=h1.2.2;have a2:=h2.2.1;grind
      · exact fun b' j h1 h2=>pc.1 u hu b' j (hx b' j h1) h2
    · exact fun b' j h1 h2=>pc.1 u hu b' j (hy b' j h1) h2
  · intro u hu t ht;rcases List.mem_cons.1 hu with h'|hu
    · subst h';exact fun b' j h1 h2=>h.st.lr _ List.mem_cons_self t ht b' j (hx b' j h1) h2
    · rcases List.mem_cons.1 hu with h'|hu
      · subst h';exact fun b' j h1 h2=>h.st.lr _ List.mem_cons_self t ht b' j (hy b' j h1) h2
      · exact h.st.lr u (List.mem_cons_of_mem _ hu) t ht
  · intro u hu b' j hh;rcases List.mem_cons.1 hu with h'|hu
    · subst h';exact h.own _ List.mem_cons_self b' j (hx b' j hh)
    · rcases List.mem_cons.1 hu with h'|hu
      · subst h';exact h.own _ List.mem_cons_self b' j (hy b' j hh)
      · exact h.own u (List.mem_cons_of_mem _ hu) b' j hh
theorem xK {b o o':Nat} {cs xs ys:List Value} {sh:Option (TypeId × Nat)} (i:Nat) (hi:nthS i l=some ⟨b,o,cs,sh⟩) (hc:cs=xs++ys) (ho:o'=o+xs.length) {a:Act} {w:World} (h:At K ρ l r a w):At K ρ (⟨b,o,xs,sh⟩::⟨b,o',ys,none⟩::l.eraseIdx i) r a w:=by
  have hp:l.Perm (⟨b,o,cs,sh⟩::l.eraseIdx i):=by
    have h1:=iK i ⟨b,o,cs,sh⟩ _ l hi;grind [gY]
  subst hc;exact(h.perm hp).acg ho
theorem G.xK {c:Code} {b o o':Nat} {cs xs ys:List Value} {sh:Option (TypeId × Nat)} (i:Nat) (hi:nthS i l=some ⟨b,o,cs,sh⟩) (hc:cs=xs++ys) (ho:o'=o+xs.length) (h:G P K Q c ρ (⟨b,o,xs,sh⟩::⟨b,o',ys,none⟩::l.eraseIdx i) r):G P K Q c ρ l r:=
  fun a w ha=>h a w (YtekcchgffhphbaaGreatDoor.xK i hi hc ho ha)
end
def aae (P:Program) (e:Nat) (i:TypeInfo) (fl:Field):Bool:=decide (i.size=0∧P.cellsOf e≠0∧byteOfCell P P.depth e 0=some 0∧fl.offset<P.cellsOf e∧byteOfCell P P.depth e fl.offset=some fl.byteOffset)
def fieldOff0 (P:Program) (s f e:Nat):Option Nat:=
  match P.underlying s with
  |some (.struct fs)=>match fs[f]? with
    |some fl=>match P.info? fl.type with
      |some i=>match aae P e i fl with
        |true=>some fl.offset
        |false=>none
      |none=>none
    |none=>none
  |_=>none
section
variable {P:Program} {ρ:aB} {l r:List au} {o:Oper} {s f n:Nat} {x:Operand}
theorem ajY {sg:au} {e c:Nat} (i:Nat) (hs:nthS i l=some sg) (hsh:sg.sh=some (e,c)) (ho:o.op=.fieldAddr s x f) (hx:ev ρ x=some (.pointer (some ⟨sg.b,0,none⟩))) (hP:fieldOff0 P s f e=some n):n3 P ρ l r o (.pointer (some ⟨sg.b,n,none⟩)):=fun ac w ha ie=>by
  have hw:=(ie.hl sg (dq _ _ _ hs)).2.2 _ hsh;unfold fieldOff0 at hP;cases hu:P.underlying s with
  |none=>simp[hu] at hP
  |some D=>
    cases D<;>simp[hu] at hP;rename_i fs;cases hf:fs[f]? with
    |none=>simp[hf] at hP
    |some fl=>
      simp only[hf] at hP;cases hi:P.info? fl.type with
      |none=>simp[hi] at hP
      |some i=>
        simp only[hi] at hP;cases hc:aae P e i fl with
        |false=>simp[hc] at hP
        |true=>
          simp only[hc] at hP;obtain⟨h0,h1,h2,h3,h4⟩:=of_decide_eq_true hc;have hn:=Option.some.inj hP;subst hn;simp[execOp,ho,bf ha hx,Instr.fieldAt,aK hu,hf,Instr.sureAddr,fieldPlace,partAt,byteOf,noView,viewAt,sizeOf,kj hi,h0,h1,h2,h4,hw,Nat.mod_eq_of_lt h3,Nat.div_eq_of_lt h3]
end
theorem Ls {b o:Nat} {cs ds:List Value} {sh:Option (TypeId × Nat)} {n:Nat} {w:World} (h:(⟨b,o,cs,sh⟩:au).oz w) (hd:cs.take n=ds):(⟨b,o,ds,none⟩:au).oz w:=by
  subst hd;refine⟨fun j v hj=>h.1 j v ?_,fun j hj=>h.2.1 j ?_,fun x hx=>by cases hx⟩
  · grind
  · grind
theorem aE.front {P:Program} {f:FuncId} {args:List Value} {l r:List au} {dz:Value→List au→Prop} {b o n:Nat} {cs ds:List Value} {sh:Option (TypeId × Nat)} (hd:cs.take n=ds) (h:aE P f args l (⟨b,o,ds,none⟩::r) dz):aE P f args l (⟨b,o,cs,sh⟩::r) dz:=by
  have mr:∀b' j:Nat,(⟨b,o,ds,none⟩:au).has b' j→(⟨b,o,cs,sh⟩:au).has b' j:=fun b' j ⟨h1,h2,h3⟩=>⟨h1,h2,by
    grind⟩
  refine⟨h.can,fun w ie=>?_⟩;have ach:St l (⟨b,o,ds,none⟩::r) w:=⟨ie.hl,fun s hs=>by
    rcases List.mem_cons.1 hs with h'|h'
    · subst h';exact Ls (ie.hr _ List.mem_cons_self) hd
    · exact ie.hr s (List.mem_cons_of_mem _ h'),ie.pw,fun s hs t ht=>by
    rcases List.mem_cons.1 ht with h'|h'
    · subst h';exact fun b' j h1 h2=>ie.lr s hs _ List.mem_cons_self b' j h1 (mr b' j h2)
    · exact ie.lr s hs t (List.mem_cons_of_mem _ h')⟩
  refine(h.run w ach).mono fun e w' ⟨v,l',h1,h2,h3,h4,h5⟩=>⟨v,l',h1,h2,h3,⟨h4.hl,?_,h4.pw,?_⟩,h5⟩
  · intro s hs;exact(ie.hr s hs).iG h3 fun t ht=>ie.lr t ht s hs
  · intro s hs t ht;intro b' j h6 h7;rcases h5 s hs b' j h6 with ⟨u,hu,ZZ⟩|wR
    · exact ie.lr u hu t ht b' j ZZ h7
    · have:=(ie.hr t ht).lt h7;omega
theorem aE.JX {P:Program} {f:FuncId} {args:List Value} {l r:List au} {s t:au} {dz:Value→List au→Prop} (h:aE P f args l (s::t::r) dz):aE P f args l (t::s::r) dz:=by
  have m:∀x,x ∈ s::t::r↔x ∈ t::s::r:=fun x=>by simp only[List.mem_cons];constructor<;>(rintro (h|h|h)<;>simp[h])
  refine⟨h.can,fun w ie=>?_⟩;refine(h.run w ⟨ie.hl,fun x hx=>ie.hr x ((m x).1 hx),ie.pw,fun x hx y hy=>ie.lr x hx y ((m y).1 hy)⟩).mono fun e w' ⟨v,l',h1,h2,h3,h4,h5⟩=>⟨v,l',h1,h2,h3,⟨h4.hl,fun x hx=>h4.hr x ((m x).2 hx),h4.pw,fun x hx y hy=>h4.lr x hx y ((m y).2 hy)⟩,h5⟩
section
variable {P:Program} {ρ:aB} {o:Oper} {x y:Operand} {ty bY:TypeId}
theorem wrap32 (w:Nat):(BitVec.ofInt 32 (IntKind.wrap .i32 ((w:Nat):Int))).toNat=w%2^32:=by
  rw[BitVec.toNat_ofInt];simp only[IntKind.wrap,IntKind.bits,IntKind.signed];simp;omega
theorem xL {w m n:Nat} (ho:o.op=.binOp .and ty x y bY) (hx:ev ρ x=some (.int .i32 (IntKind.wrap .i32 ((w:Nat):Int)))) (hy:ev ρ y=some (.int .i32 ((m:Nat):Int))) (hm:m=2^n-1) (hn:n≤31):aH P ρ o (.int .i32 ((w%2^n:Nat):Int)):=(uN ho hx hy).cast (by
  have hp:(2:Nat)^n≤2^31:=Nat.pow_le_pow_right Om hn;have hq:=Nat.pow_pos (n:=n) (show 0<2 by omega);have eV:=Nat.mod_lt w hq;have h2:(BitVec.ofInt 32 ((m:Nat):Int)).toNat=m:=eN 32 m Om;rw[BitVec.toNat_and,show IntKind.bits .i32=32 from rfl,wrap32,h2,hm,Nat.and_two_pow_sub_one_eq_mod,Nat.mod_mod_of_dvd _ (Nat.pow_dvd_pow 2 Om)];rw[IntWalk.i32_in _ ⟨Om,Om⟩])
end
section
variable {P:Program} {K:Kx} {Q:Exit→Act→World→Prop} {ρ:aB} {l r:List au} {L rest:List Oper} {o:Oper} {t:TypeId} {x:Operand}
theorem rV {d n:Nat} {cs:List Value} (ho:o.op=.box t x) (hx:ev ρ x=some (.agg cs.toArray)) (hl:cs.length=n) (hd:o.dst=some d) (hn:Nat.blt d K.n=true):
    kC P K ρ l r o (fun ρ' l'=>∃b,ρ'=(d,.pointer (some ⟨b,0,none⟩))::ρ∧l'=⟨b,0,cs,some (t,n)⟩::l):=hl▸Oc ho hx hd hn
end
section
variable {P:Program} {ρ:aB} {o:Oper} {x y z u:Operand} {t:TypeId} {k k' k'':IntKind} {b q len cap lo hi m sz:Nat}
theorem ajZ {q':Nat} (ho:o.op=.slice t x (some y) (some z) (some u)) (hx:ev ρ x=some (.slice (some ⟨b,q,none⟩) len cap)) (hy:ev ρ y=some (.int k (lo:Nat))) (hz:ev ρ z=some (.int k' (hi:Nat))) (hu':ev ρ u=some (.int k'' (m:Nat))) (hP:cJ P t=some sz) (h:lo≤hi∧hi≤m∧m≤cap∧lo<m) (hq:q+lo*sz=q'):aH P ρ o (.slice (some ⟨b,q',none⟩) (hi-lo) (m-lo)):=by
  subst hq;intro ac ha w;unfold cJ at hP;cases hu:P.underlying t with
  |none=>simp[hu] at hP
  |some D=>
    cases D<;>simp[hu] at hP;simp[execOp,ho,bf ha hx,bf ha hy,bf ha hz,bf ha hu',Instr.sliceAt,aK hu,Instr.slice,Instr.sliceBounds,Instr.sliceBound,asIntOf,cH hP,h.1,h.2.1,h.2.2.1,df,show¬m=lo by omega]
end
section
variable {P:Program} {K:Kx} {Q:Exit→Act→World→Prop} {ρ:aB} {l r:List au} {L rest:List Oper} {o:Oper} {d:Nat}
end
end Go.Proofs.YtekcchgffhphbaaGreatDoor
namespace Go.Proofs.YtekcchgffhphbaaGreatDoor
theorem kN.jq {xs A:List Nat} {k len i:Nat} {T:List Cell} {s:BR} (h:kN xs k len T A i s) (hb:Bytes xs) (ho:32≤s.rd→4≤s.off):kN xs k len T A i (s.jq xs k)∧(s.jq xs k).rd≤32∧s.off≤(s.jq xs k).off+4∧(s.jq xs k).off≤s.off:=by
  obtain⟨h1,h2⟩:=h.pos.jq hb ho;exact⟨⟨h1⟩,h2⟩
theorem kN.eF {xs A:List Nat} {k len i:Nat} {T:List Cell} {s:BR} (h:kN xs k len T A i s) (hb:Bytes xs):kN xs k len T A i (BR.eF xs k s)∧((BR.eF xs k s).rd≤32∨(BR.eF xs k s).off=0)∧(BR.eF xs k s).off≤s.off:=by
  obtain⟨h1,h2⟩:=h.pos.eF hb (fun _ _=>Om);exact⟨⟨h1⟩,h2⟩
theorem u7 {W ys:List Nat} {j:Nat} (h:j+ys.length≤W.length):(cQ W j ys).take (j+ys.length)=W.take j++ys:=by
  grind [cQ]
theorem Ot {text:List Nat} {i:Nat} (h:i+4≤text.length):text.take i++[text.getD i 0,text.getD (i+1) 0,text.getD (i+2) 0,text.getD (i+3) 0]=text.take (i+4):=by
  grind [iT]
theorem aj0 {W text:List Nat} {i:Nat} (h:W.take i=text.take i) (hl:i+1≤W.length) (ht:i<text.length):(cQ W i [text.getD i 0]).take (i+1)=text.take (i+1):=by
  have:=u7 (W:=W) (ys:=[text.getD i 0]) (j:=i) (by simpa using hl);simp_all
theorem aci {W text:List Nat} {i:Nat} (h:W.take i=text.take i) (hl:i+2≤W.length) (ht:text.length=i+2):(cQ W i [text.getD i 0,text.getD (i+1) 0]).take text.length=text:=by
  have:=u7 (W:=W) (ys:=[text.getD i 0,text.getD (i+1) 0]) (j:=i) (by simpa using hl);rw[show i+[text.getD i 0,text.getD (i+1) 0].length=i+2 from rfl] at this;rw[ht,this,h];have h2:=iT (xs:=text) (i:=i+1) Om;grind [iT]
theorem aj1 {W M text:List Nat} {i:Nat} (h:M.take i=text.take i) (hl:i≤W.length) (hM:i≤M.length):(cQ W 0 (M.take i)).take i=text.take i:=by
  have:=u7 (W:=W) (ys:=M.take i) (j:=0) (by rw[List.length_take];omega);grind
theorem nC (n:Nat):n&&&63=n%64:=Nat.and_two_pow_sub_one_eq_mod n 6
def xM (P C S:List Nat) (u:Nat):Prop:=∀x,x<P.length→S.getD x 0=P.getD x 0+(C.take u).count x
theorem xM.step {P C S:List Nat} {u s:Nat} (h:xM P C S u) (hu:u<C.length) (hs:C.getD u 0=s) (hS:P.length≤S.length) (j6:s<P.length):xM P C (S.set s (S.getD s 0+1)) (u+1):=fun x hx=>by
  rw[iT hu,hs,List.count_append];by_cases e:x=s
  · subst e;rw[List.count_singleton_self,mF Om,if_pos rfl,h x hx];omega
  · rw[List.count_singleton];have:(s==x)=false:=by simp;omega
    rw[u5 e,h x hx];simp[this]
theorem DQ {X c m N:Nat} (h:c+m≤N):X/2^c%2^m=X%2^N/2^c%2^m:=by
  have e:(2:Nat)^N=2^c*2^(N-c):=by rw[←Nat.pow_add];congr 1;omega
  rw[e,Nat.mod_mul_right_div_self];exact(Nat.mod_mod_of_dvd _ (Nat.pow_dvd_pow 2 Om)).symm
theorem OA {xs:List Nat} (hb:Bytes xs) {k len off c m:Nat} (ho:off+4≤len) (hm:c+m≤32):eS xs (k+off)/2^c%2^m=tailV xs k len/2^(8*off+c)%2^m:=by
  have h1:=jY xs k off (len-off);rw[show off+(len-off)=len by omega] at h1;have h2:tailV xs k len/2^(8*off)=tailV xs (k+off) (len-off):=by
    rw[h1,Nat.add_mul_div_right _ _ (Nat.pow_pos Om),Nat.div_eq_of_lt (gK hb k off),Nat.zero_add]
  rw[Nat.pow_add, ←Nat.div_div_eq_div_mul,h2,DQ (N:=32) (X:=tailV xs (k+off) (len-off)) hm];have h3:=uZ hb (k+off) (m:=4) (n:=len-off) Om;grind [eS,tailV,xC]
theorem nE {a b m n:Nat} (h:m≤n) (e:a%2^n=b):a%2^m=b%2^m:=by
  rw[←e];exact(Nat.mod_mod_of_dvd _ (Nat.pow_dvd_pow 2 h)).symm
theorem Aj.win {xs ys bs:List Nat} {k len p off c m:Nat} (hL:Aj ys len p bs) (hb:Bytes xs) (he:tailV xs k len=tailV ys 0 len) (ho:off+4≤len) (hp:8*off+c=p) (hm:c+m≤32) (VV:m≤bs.length):eS xs (k+off)/2^c%2^m=lowV bs%2^m:=by
  rw[OA hb ho hm,hp,he];exact nE VV hL.2
theorem GC {a b:List Nat} (ha:oA a):lowV (a++b)%2^a.length=lowV a:=by
  rw[ga,Nat.add_mul_mod_self_left,Nat.mod_eq_of_lt (wT ha)]
theorem Aj.front {xs ys a bs:List Nat} {k len p off c:Nat} (hL:Aj ys len p (a++bs)) (ha:oA a) (hb:Bytes xs) (he:tailV xs k len=tailV ys 0 len) (ho:off+4≤len) (hp:8*off+c=p) (hm:c+a.length≤32):eS xs (k+off)/2^c%2^a.length=lowV a:=by
  rw[hL.win hb he ho hp hm Oi,GC ha]
theorem OB {w dk v:Nat} (h:w%2^(im dk v).length=lowV (im dk v)) (hv:v≤dk) (h0:0<dk):
    (w%2^(aq dk-1)<2^aq dk-1-dk∧w%2^(aq dk-1)=v∧(im dk v).length=aq dk-1)∨
      (2^aq dk-1-dk≤w%2^(aq dk-1)∧(im dk v).length=aq dk∧((2^(aq dk-1)≤w%2^aq dk∧w%2^aq dk=v+(2^aq dk-1-dk))∨(w%2^aq dk<2^(aq dk-1)∧w%2^aq dk=v))):=by
  obtain⟨k,hk⟩:∃k,aq dk=k+1:=⟨aq dk-1,by have:=dA h0;omega⟩;have xN:=tf h0;have uA:=iD dk;have hp:(2:Nat)^(k+1)=2^k*2:=Nat.pow_succ ..;by_cases h1:v<2^aq dk-1-dk
  · have e:im dk v=eA v (aq dk-1):=if_pos h1;rw[e,bD,fU] at h;rw[hk,Nat.add_sub_cancel] at xN h ⊢;rw[hk] at uA h1;rw[Nat.mod_eq_of_lt (show v<2^k by omega)] at h;grind [bD]
  · by_cases h2:v<2^(aq dk-1)
    · have e:im dk v=eA v (aq dk):=by unfold im;rw[if_neg h1,if_pos h2]
      rw[e,bD,fU] at h;have h3:=nE (show k≤aq dk by omega) h;rw[hk] at uA h1 h h3;rw[hk,Nat.add_sub_cancel] at xN h2 ⊢;rw[Nat.mod_eq_of_lt (show v<2^(k+1) by omega)] at h h3;rw[Nat.mod_eq_of_lt h2] at h3;grind [bD]
    · have e:im dk v=eA (v+(2^aq dk-1-dk)) (aq dk):=by unfold im;rw[if_neg h1,if_neg h2]
      rw[e,bD,fU] at h;have h3:=nE (show k≤aq dk by omega) h;rw[hk] at uA h1 h h3;rw[hk,Nat.add_sub_cancel] at xN h2 ⊢;have eV:v+(2^(k+1)-1-dk)<2^(k+1):=Om;rw[Nat.mod_eq_of_lt eV] at h h3;have h4:(v+(2^(k+1)-1-dk))%2^k=v+(2^(k+1)-1-dk)-2^k:=by
        rw[Nat.mod_eq_sub_mod (show v+(2^(k+1)-1-dk)≥2^k by omega),Nat.mod_eq_of_lt Om]
      grind [bD]
theorem ll {dk v:Nat}:aq dk-1≤(im dk v).length∧(im dk v).length≤aq dk:=by
  grind [im,bD]
theorem Xg {w z:Nat} (h:w%2^(zerosB z).length=lowV (zerosB z)):(3≤z∧w%4=3∧w/4%2^(zerosB (z-3)).length=lowV (zerosB (z-3))∧(zerosB z).length=2+(zerosB (z-3)).length)∨(z<3∧w%4=z∧(zerosB z).length=2):=by
  by_cases h3:3≤z
  · have e:=DP h3;have hl:(zerosB z).length=2+(zerosB (z-3)).length:=by rw[e,List.length_append,bD]
    rw[hl,e,ga,fU,bD,Nat.pow_add] at h;have h1:=congrArg (· %2^2) h;have h2:=congrArg (· /2^2) h;simp only[Nat.mod_mul_right_mod,Nat.mod_mul_right_div_self] at h1 h2;grind
  · grind [GA,bD,fU]
theorem qC:∀z,(zerosB z).length=2*(z/3)+2
  |0=>rfl
  |1=>rfl
  |2=>rfl
  |m+3=>by
    (simp[eA,zerosB,bD,qC];omega)
theorem DR:∀z,lowV (zerosB z)+1<2^(zerosB z).length
  |0=>by decide
  |1=>by decide
  |2=>by decide
  |m+3=>by
    show lowV (eA 3 2++zerosB m)+1<2^(eA 3 2++zerosB m).length;have:=DR m;grind [ga,fU,bD]
theorem acj:∀n,n≤16→65535%2^n+1=2^n:=by decide
theorem Lt {w z:Nat} (h:w%2^(zerosB z).length=lowV (zerosB z)) (hz:z≤20):w%65536≠65535:=fun e=>by
  grind [qC,nE,zerosB,DR,acj]
theorem qE {n k:Nat} (h1:2^(k-1)≤n) (h2:n<2^k) (hk:1≤k):aq n=k:=by
  have a:=cS h2;have b:=iD n;have c:k-1<aq n:=(Nat.pow_lt_pow_iff_right Om).1 (Nat.lt_of_le_of_lt h1 b);omega
def bg (L n c:Nat):Nat:=if n=1 then L else if n*2^(L-(aq (n-1)-1))≤c then L-(aq (n-1)-1) else L-(aq (n-1)-1)-1
theorem Ak {n:Nat} (h:0<n):∃k,aq n=k+1∧2^k≤n∧n<2^(k+1):=by
  have h1:=dA h;have h2:=tf h;grind [iD,aq]
theorem lq {L n c:Nat} (h1:1≤n) (hn:n≤2^L) (hc:2^L≤c∧c<2^(L+1)):bg L n c≤L∧n≤c/2^bg L n c∧c/2^bg L n c<2*n:=by
  unfold bg;by_cases e:n=1
  · rw[if_pos e];subst e;have hp:0<2^L:=Nat.two_pow_pos _;refine⟨Nat.le_refl _,?_,?_⟩
    · exact(Nat.le_div_iff_mul_le hp).2 Om
    · exact(Nat.div_lt_iff_lt_mul hp).2 (by rw[Nat.pow_succ] at hc;omega)
  · rw[if_neg e];obtain⟨k,hk,k1,k2⟩:=Ak (n:=n-1) Om;rw[hk,Nat.add_sub_cancel];have hkL:k<L:=by
      apply Classical.byContradiction;intro wR;have:2^L≤2^k:=Nat.pow_le_pow_right Om Om;omega
    have e1:2^(L+1)=2^(k+1)*2^(L-k):=by rw[←Nat.pow_add];congr 1;omega
    have e2:2^L=2^(k+1)*2^(L-k-1):=by rw[←Nat.pow_add];congr 1;omega
    have e3:2^(L-k)=2*2^(L-k-1):=by
      have:2^(L-k-1+1)=2^(L-k-1)*2:=Nat.pow_succ _ _;grind
    have e4:2^(k+1)=2*2^k:=by rw[Nat.pow_succ];omega
    split
    · rename_i wR;have hp:0<2^(L-k):=Nat.two_pow_pos _;refine⟨Om,(Nat.le_div_iff_mul_le hp).2 wR,(Nat.div_lt_iff_lt_mul hp).2 ?_⟩;have:2^(k+1)*2^(L-k)≤2*n*2^(L-k):=Nat.mul_le_mul_right _ Om;omega
    · rename_i eV;have hp:0<2^(L-k-1):=Nat.two_pow_pos _;refine⟨Om,(Nat.le_div_iff_mul_le hp).2 ?_,(Nat.div_lt_iff_lt_mul hp).2 ?_⟩
      · have:n*2^(L-k-1)≤2^(k+1)*2^(L-k-1):=Nat.mul_le_mul_right _ Om;omega
      · have e5:n*2^(L-k)=2*n*2^(L-k-1):=by rw[e3, ←Nat.mul_assoc,Nat.mul_comm n 2]
        omega
theorem OC {L n c:Nat} (h1:1≤n) (hn:n≤2^L) (hc:2^L≤c∧c<2^(L+1)):
    L-(aq (c/2^bg L n c)-1)=bg L n c∧(c/2^bg L n c)*2^bg L n c-2^L+c%2^bg L n c=c-2^L∧2^L≤(c/2^bg L n c)*2^bg L n c:=by
  obtain⟨hl,ha,hb⟩:=lq h1 hn hc;generalize bg L n c=b at*;have hp:0<2^b:=Nat.two_pow_pos _;have e1:2^L=2^(L-b)*2^b:=by rw[←Nat.pow_add];congr 1;omega
  have e2:2^(L+1)=2^(L-b+1)*2^b:=by rw[←Nat.pow_add];congr 1;omega
  have h3:2^(L-b)≤c/2^b:=(Nat.le_div_iff_mul_le hp).2 Om;have h4:c/2^b<2^(L-b+1):=(Nat.div_lt_iff_lt_mul hp).2 Om;have h5:aq (c/2^b)=L-b+1:=qE (by simpa using h3) h4 Om;have h6:2^L≤(c/2^b)*2^b:=by rw[e1];exact Nat.mul_le_mul_right _ h3
  have h7:=Nat.div_add_mod c (2^b);grind
def oB (L n:Nat):Nat:=if n=1 then L*65536-2^L else (L-(aq (n-1)-1))*65536-n*2^(L-(aq (n-1)-1))
theorem GD {L n:Nat} (F7:n≠1) (h1:1≤n) (hn:n≤2^L):1≤L-(aq (n-1)-1)∧L-(aq (n-1)-1)≤L∧n*2^(L-(aq (n-1)-1))≤2^(L+1):=by
  obtain⟨k,hk,k1,k2⟩:=Ak (n:=n-1) Om;rw[hk,Nat.add_sub_cancel];have hkL:k<L:=by
    apply Classical.byContradiction;intro wR;have:2^L≤2^k:=Nat.pow_le_pow_right Om Om;omega
  have e1:2^(L+1)=2^(k+1)*2^(L-k):=by rw[←Nat.pow_add];congr 1;omega
  refine⟨Om,Om,?_⟩;rw[e1];exact Nat.mul_le_mul_right _ Om
theorem OD {L n c:Nat} (hL:1≤L∧L≤12) (h1:1≤n) (hn:n≤2^L) (hc:2^L≤c∧c<2^(L+1)):(c+oB L n)/65536=bg L n c:=by
  have zy:2^(L+1)≤2^13:=Nat.pow_le_pow_right Om Om;grind [oB,bg,GD,aq]
theorem Lu {L n:Nat} (hL:1≤L∧L≤12) (h1:1≤n) (hn:n≤2^L):(((oB L n+32768)/65536)*65536-oB L n)/2^((oB L n+32768)/65536)=n∧oB L n≤((oB L n+32768)/65536)*65536:=by
  have zy:2^(L+1)≤2^13:=Nat.pow_le_pow_right Om Om;have xO:2^L≤2^12:=Nat.pow_le_pow_right Om Om;unfold oB;by_cases e:n=1
  · rw[if_pos e,e];have e1:(L*65536-2^L+32768)/65536=L:=Om;rw[e1,show L*65536-(L*65536-2^L)=2^L by omega];exact⟨Nat.div_self (Nat.two_pow_pos _),Om⟩
  · rw[if_neg e];obtain⟨m1,m2,m3⟩:=GD e h1 hn;generalize L-(aq (n-1)-1)=m at*;have e1:(m*65536-n*2^m+32768)/65536=m:=Om;rw[e1,show m*65536-(m*65536-n*2^m)=n*2^m by omega];exact⟨Nat.mul_div_cancel _ (Nat.two_pow_pos _),Om⟩
def nF (size m:Nat):List Nat:=((List.range size).map fun j=>j*fS size%size).filter fun p=>decide (p+m<size)
def j7 (size m:Nat):List Nat:=nF size m++(List.range m).map fun i=>size-1-i
def goM (size m:Nat):Nat→Nat→Nat
  |0,p=>p
  |f+1,p=>if p+m<size then p else goM size m f ((p+fS size)%size)
def stM (size m:Nat):Nat→Nat→Nat
  |0,_=>0
  |f+1,p=>if p+m<size then 0 else stM size m f ((p+fS size)%size)+1
theorem Al:∀m,m<14→(j7 32 m).Perm (List.range 32)∧(j7 64 m).Perm (List.range 64):=by decide+kernel
theorem Am:∀m,m<14→((List.range 32).map fun u=>(j7 32 m).idxOf u).Perm (List.range 32)∧((List.range 64).map fun u=>(j7 64 m).idxOf u).Perm (List.range 64):=by decide+kernel
theorem tv:∀m,m<14→((nF 32 m).length=32-m∧(nF 32 m).getD 0 0=0)∧(nF 64 m).length=64-m∧(nF 64 m).getD 0 0=0:=by decide+kernel
theorem ack:∀m,m<14→∀p,p<32→¬p+m<32→goM 32 m 32 p=goM 32 m 32 ((p+23)%32)∧stM 32 m 32 ((p+23)%32)<stM 32 m 32 p:=by decide+kernel
theorem acm:∀m,m<14→∀p,p<64→¬p+m<64→goM 64 m 64 p=goM 64 m 64 ((p+43)%64)∧stM 64 m 64 ((p+43)%64)<stM 64 m 64 p:=by decide+kernel
theorem OE:∀m,m<14→∀i,i<32-m→goM 32 m 32 (((nF 32 m).getD i 0+23)%32)=(nF 32 m).getD ((i+1)%(32-m)) 0:=by decide+kernel
theorem OF:∀m,m<14→∀i,i<64-m→goM 64 m 64 (((nF 64 m).getD i 0+43)%64)=(nF 64 m).getD ((i+1)%(64-m)) 0:=by decide+kernel
def pe (size m:Nat):Prop:=(size=32∨size=64)∧m<14
section
variable {size m:Nat}
theorem pe.perm (h:pe size m):(j7 size m).Perm (List.range size):=by
  rcases h with ⟨rfl|rfl,hm⟩
  · grind [Al]
  · simp_all [Al]
theorem pe.aj2 (h:pe size m):((List.range size).map fun u=>(j7 size m).idxOf u).Perm (List.range size):=by
  rcases h with ⟨rfl|rfl,hm⟩
  · grind [Am]
  · grind [Am]
theorem pe.len (h:pe size m):(nF size m).length=size-m:=by
  rcases h with ⟨rfl|rfl,hm⟩
  · grind [tv]
  · simp_all [tv]
theorem pe.first (h:pe size m):(nF size m).getD 0 0=0:=by
  rcases h with ⟨rfl|rfl,hm⟩
  · grind [tv]
  · exact(tv m hm).2.2
theorem pe.le (h:pe size m):m<14∧32≤size∧size≤64:=by
  rcases h with ⟨rfl|rfl,hm⟩<;>omega
theorem OG (h:pe size m) {p:Nat} (hp:p+m<size):goM size m size p=p:=by
  rcases h with ⟨rfl|rfl,hm⟩
  · grind [goM]
  · grind [goM]
theorem OH (h:pe size m) {p:Nat} (hp:p<size) (hn:¬p+m<size):goM size m size p=goM size m size ((p+fS size)%size)∧stM size m size ((p+fS size)%size)<stM size m size p:=by
  rcases h with ⟨rfl|rfl,hm⟩
  · exact ack m hm p hp hn
  · exact acm m hm p hp hn
theorem aj3 (h:pe size m) {i:Nat} (hi:i<size-m):goM size m size (((nF size m).getD i 0+fS size)%size)=(nF size m).getD ((i+1)%(size-m)) 0:=by
  rcases h with ⟨rfl|rfl,hm⟩
  · exact OE m hm i hi
  · exact OF m hm i hi
theorem pe.acn (h:pe size m):(j7 size m).length=size:=by have:=h.perm.length_eq;simpa using this
theorem pe.nodup (h:pe size m):(j7 size m).Nodup:=h.perm.nodup_iff.2 List.nodup_range
theorem pe.inj (h:pe size m) {i j:Nat} (hi:i<size) (hj:j<size) (he:(j7 size m).getD i 0=(j7 size m).getD j 0):i=j:=by
  have h1:i<(j7 size m).length:=by rw[h.acn];exact hi
  have h2:j<(j7 size m).length:=by rw[h.acn];exact hj
  simp only[List.getD_eq_getElem?_getD,List.getElem?_eq_getElem h1,List.getElem?_eq_getElem h2,Option.getD_some] at he;have hp:=List.pairwise_iff_getElem.1 h.nodup;grind
theorem pe.met (h:pe size m) {u:Nat} (hu:u<size):(j7 size m).idxOf u<size∧(j7 size m).getD ((j7 size m).idxOf u) 0=u:=by
  have hm:u ∈ j7 size m:=h.perm.mem_iff.2 (List.mem_range.2 hu);have h1:=List.idxOf_lt_length_iff.2 hm;refine⟨by rwa [h.acn] at h1,?_⟩;grind
theorem pe.seq (h:pe size m) {i:Nat} (hi:i<size-m):(j7 size m).getD i 0=(nF size m).getD i 0:=by
  have:i<(nF size m).length:=by rw[h.len];exact hi
  grind [j7]
theorem pe.back (h:pe size m) {i:Nat} (hi:i<m):(j7 size m).getD (size-m+i) 0=size-1-i:=by
  have hl:=h.len;grind [j7]
def pf (size m:Nat) (all:List Nat):List Nat:=(List.range size).map fun u=>all.getD ((j7 size m).idxOf u) 0
theorem zA (all:List Nat):(pf size m all).length=size:=by simp[pf]
theorem GF {all:List Nat} {u:Nat} (hu:u<size):(pf size m all).getD u 0=all.getD ((j7 size m).idxOf u) 0:=by simp[pf,List.getD_eq_getElem?_getD,hu]
theorem Bz (h:pe size m) {all:List Nat} (ha:all.length=size) (x:Nat):(pf size m all).count x=all.count x:=by
  have e1:all=(List.range size).map fun j=>all.getD j 0:=by
    apply List.ext_getElem (by simp[ha]);grind
  have e2:pf size m all=((List.range size).map fun u=>(j7 size m).idxOf u).map fun j=>all.getD j 0:=by rw[pf,List.map_map];rfl
  conv=>rhs;rw[e1]
  rw[e2];exact(h.aj2.map _).count_eq x
end
def n8 (cs:List Int):List Nat:=flatC 0 (cs.map Int.toNat)
def bl (cs:List Int):List Nat:=flatC 0 (cs.map fun n=>(-n).toNat)
def a4 (cs:List Int):List Nat:=cs.map Int.natAbs
structure bx (log:Nat) (cs:List Int):Prop where
  lg:log=5∨log=6
  sum:(a4 cs).sum=2^log
  len:cs.length≤13
  ge:∀c ∈ cs, -1≤c
  lt:∀c ∈ cs,c<2^log
def cY (log:Nat) (cs:List Int):List Nat:=pf (2^log) (bl cs).length (n8 cs++bl cs)
def eE (log:Nat) (cs:List Int):List Cell:=buildD log (cY log cs) (a4 cs)
theorem An:∀cs:List Int,(a4 cs).sum=(cs.map Int.toNat).sum+(cs.map fun n=>(-n).toNat).sum
  |[]=>rfl
  |n::cs=>by
    have:=An cs;grind [a4]
theorem JY:∀cs:List Int,(∀c ∈ cs, -1≤c)→(cs.map fun n=>(-n).toNat).sum≤cs.length
  |[],_=>Nat.le_refl _
  |n::cs,h=>by
    have:=JY cs fun c hc=>h c (List.mem_cons_of_mem _ hc)
    (simp_all;omega)
section
variable {log:Nat} {cs:List Int}
theorem kO (cs:List Int):(bl cs).length=(cs.map fun n=>(-n).toNat).sum:=u0 _ _
theorem nG (cs:List Int):(n8 cs).length=(cs.map Int.toNat).sum:=u0 _ _
theorem bx.size (h:bx log cs):2^log=32∨2^log=64:=by rcases h.lg with h|h<;>subst h<;>simp
theorem bx.sz (h:bx log cs):pe (2^log) (bl cs).length:=by
  refine⟨h.size,?_⟩;have:=JY cs h.ge;have:=h.len;grind [kO]
theorem bx.all (h:bx log cs):(n8 cs).length=2^log-(bl cs).length∧(n8 cs++bl cs).length=2^log:=by
  have h1:=An cs;have h2:=h.sum;grind [nG,kO]
theorem ke:(cY log cs).length=2^log:=zA _
theorem iU {f:Int→Nat} (h0:f 0=0) (cs:List Int) (i:Nat):(cs.map f).getD i 0=f (cs.getD i 0):=by
  grind
theorem tx (h:bx log cs) (x:Nat):(cY log cs).count x=(a4 cs).getD x 0:=by
  rw[cY,Bz h.sz h.all.2,List.count_append,n8,bl,o7,o7,if_pos (Nat.zero_le _),if_pos (Nat.zero_le _),Nat.sub_zero,a4,iU rfl,iU rfl,iU rfl];omega
theorem rq:(eE log cs).length=2^log:=by rw[eE,rp,ke]
end
theorem GG {log:Nat} {C ns:List Nat} (hC:C.length=2^log) (tA:∀x,C.count x=ns.getD x 0) (hle:∀c ∈ ns,c<2^log) (zB:1≤log) {u:Nat} (hu:u<2^log):
    ∃s k,(buildD log C ns).getD u (0,0,0)=DO log s k∧s=C.getD u 0∧s<ns.length∧k=ns.getD s 0+(C.take u).count s∧1≤k∧k<2*2^log∧k+1≤2*ns.getD s 0∧log-(aq k-1)≤log∧2^log≤k*2^(log-(aq k-1))∧k*2^(log-(aq k-1))-2^log+2^(log-(aq k-1))≤2^log:=by
  have Dr:∀s ∈ C,s<ns.length:=fun s hs=>by
    have h1:0<C.count s:=List.count_pos_iff.2 hs;grind
  have hs:u<C.length:=by rw[hC];exact hu
  have hg:C.getD u 0=C[u]:=by simp[hs]
  have eV:C.getD u 0<ns.length:=by rw[hg];exact Dr _ (List.getElem_mem hs)
  refine⟨_,_,rS log _ ns u hs Dr,rfl,eV,rfl,?_⟩;have hc:(C.take u).count (C.getD u 0)+1≤ns.getD (C.getD u 0) 0:=by
    rw[←tA];have h1:(C.take (u+1)).count C[u]=(C.take u).count C[u]+1:=by rw[List.take_succ_eq_append_getElem hs,List.count_append,List.count_singleton_self]
    rw[hg, ←h1];exact(List.take_sublist _ _).count_le _
  generalize hs':C.getD u 0=s at*;generalize (C.take u).count s=q at*;have aj4:=hle (ns.getD s 0) (by simp[List.getD_eq_getElem?_getD,eV]);generalize ns.getD s 0=n at*;have xN:1≤n+q:=Om;have uA:n+q<2^(log+1):=by rw[Nat.pow_succ];omega
  have Lv:n+q+1≤2*n:=Om;have rW:=dA (show 0<n+q by omega);have n9:=tf (show 0<n+q by omega);have uD:=iD (n+q);have hb4:=cS uA;generalize aq (n+q)=b at*;generalize n+q=k at*;have e1:(2:Nat)^log=2^(b-1)*2^(log-(b-1)):=by rw[←Nat.pow_add];congr 1;omega
  have e2:2*(2:Nat)^log=2^b*2^(log-(b-1)):=by
    rw[←Nat.pow_add,show b+(log-(b-1))=log+1 by omega,Nat.pow_succ,Nat.mul_comm]
  have h3:2^log≤k*2^(log-(b-1)):=by rw[e1];exact Nat.mul_le_mul_right _ n9
  have h4:(k+1)*2^(log-(b-1))≤2*2^log:=by rw[e2];exact Nat.mul_le_mul_right _ uD
  grind
theorem bx.GH {log:Nat} {cs:List Int} (h:bx log cs):∀c ∈ a4 cs,c<2^log:=fun c hc=>by
  obtain⟨x,hx,rfl⟩:=List.mem_map.1 hc;have h1:=h.ge x hx;have h2:=h.lt x hx;have h3:=h.size;grind
theorem nH {log:Nat} {cs:List Int} (h:bx log cs) {u:Nat} (hu:u<2^log):
    ∃s k,(eE log cs).getD u (0,0,0)=DO log s k∧s=(cY log cs).getD u 0∧s<cs.length∧k=(a4 cs).getD s 0+((cY log cs).take u).count s∧1≤k∧k<2*2^log∧k+1≤2*(a4 cs).getD s 0∧log-(aq k-1)≤log∧2^log≤k*2^(log-(aq k-1))∧k*2^(log-(aq k-1))-2^log+2^(log-(aq k-1))≤2^log:=by
  have:=GG ke (tx h) h.GH (by rcases h.lg with h|h<;>omega) hu;rw[show(a4 cs).length=cs.length by simp[a4]] at this;exact this
def occC:List Nat→Nat→Nat→Nat
  |[],_,_=>0
  |x::t,s,j=>if x=s then (if j=0 then 0 else occC t s (j-1)+1) else occC t s j+1
theorem wV:∀(C:List Nat) (s j:Nat),j<C.count s→occC C s j<C.length∧C.getD (occC C s j) 0=s∧(C.take (occC C s j)).count s=j
  |[],s,j,h=>by simp at h
  |x::t,s,j,h=>by
    unfold occC;rw[List.count_cons] at h;by_cases e:x=s
    · rw[if_pos e];by_cases e2:j=0
      · grind
      · rw[if_neg e2];rw[if_pos (by simpa using e)] at h;obtain⟨h1,h2,h3⟩:=wV t s (j-1) Om;grind
    · rw[if_neg e];rw[if_neg (by simpa using e)] at h;obtain⟨h1,h2,h3⟩:=wV t s j Om;grind
theorem JZ:∀(C:List Nat) (u:Nat),u<C.length→occC C (C.getD u 0) ((C.take u).count (C.getD u 0))=u
  |[],u,h=>by simp at h
  |x::t,0,h=>by simp[occC]
  |x::t,u+1,h=>by
    have hu:u<t.length:=by simpa using h
    have ih:=JZ t u hu;grind [occC]
def DS (L:Nat) (C ns:List Nat) (s c:Nat):Nat:=occC C s ((c+2^L)/2^bg L (ns.getD s 0) (c+2^L)-ns.getD s 0)
def encA (L:Nat) (C ns:List Nat):List Nat→List Nat
  |[]=>[]
  |s::t=>(if (encA L C ns t).length<2 then occC C s 0 else DS L C ns s ((encA L C ns t).getD 1 0))::encA L C ns t
theorem gb (L:Nat) (C ns:List Nat):∀t:List Nat,(encA L C ns t).length=t.length
  |[]=>rfl
  |s::t=>by simp[encA,gb L C ns t]
structure iV (L:Nat) (C ns:List Nat):Prop where
  lg:1≤L∧L≤12
  len:C.length=2^L
  cnt:∀x,C.count x=ns.getD x 0
  lt:∀c ∈ ns,c<2^L
section
variable {L:Nat} {C ns:List Nat}
theorem iV.le (h:iV L C ns) (s:Nat):ns.getD s 0<2^L:=by
  rcases Nat.lt_or_ge s ns.length with hs|hs
  · exact h.lt _ (by simp[List.getD_eq_getElem?_getD,hs])
  · grind
theorem iV.in (h:iV L C ns):∀s ∈ C,s<ns.length:=fun s hs=>by
  have h1:0<C.count s:=List.count_pos_iff.2 hs;rw[h.cnt] at h1;grind
theorem iV.occ (h:iV L C ns) {s j:Nat} (hj:j<ns.getD s 0):occC C s j<2^L∧(buildD L C ns).getD (occC C s j) (0,0,0)=DO L s (ns.getD s 0+j):=by
  obtain⟨h1,h2,h3⟩:=wV C s j (by rw[h.cnt];exact hj);refine⟨by rwa [h.len] at h1,?_⟩;rw[rS L C ns _ h1 h.in,h2,h3]
theorem iV.step (h:iV L C ns) {s c:Nat} (hs:1≤ns.getD s 0) (hc:c<2^L):DS L C ns s c<2^L∧((buildD L C ns).getD (DS L C ns s c) (0,0,0)).1=s∧
    ((buildD L C ns).getD (DS L C ns s c) (0,0,0)).2.1=bg L (ns.getD s 0) (c+2^L)∧((buildD L C ns).getD (DS L C ns s c) (0,0,0)).2.2+(c+2^L)%2^bg L (ns.getD s 0) (c+2^L)=c:=by
  have hn:=h.le s;have hcc:2^L≤c+2^L∧c+2^L<2^(L+1):=by rw[Nat.pow_succ];omega
  obtain⟨e1,e2,e3⟩:=lq hs (Nat.le_of_lt hn) hcc;obtain⟨b1,b2,b3⟩:=OC hs (Nat.le_of_lt hn) hcc;obtain⟨o1,o2⟩:=h.occ (s:=s) (j:=(c+2^L)/2^bg L (ns.getD s 0) (c+2^L)-ns.getD s 0) Om;unfold DS;rw[o2,Nat.add_sub_cancel' e2];refine⟨o1,rfl,b1,?_⟩;show _*2^(L-(aq _-1))-2^L+_=_;rw[b1];omega
theorem tB (i:Nat) (t:List Nat) (hi:i+2<t.length):(encA L C ns t).getD i 0=DS L C ns (t.getD i 0) ((encA L C ns t).getD (i+2) 0):=by
  induction i generalizing t with
  |zero=>
    match t,hi with
    |s::t,hi=>
      grind [gb,encA]
  |succ i ih=>
    match t,hi with
    |s::t,hi=>
      grind [encA]
theorem u9 (i:Nat) (t:List Nat) (hi:i<t.length) (h2:t.length≤i+2):(encA L C ns t).getD i 0=occC C (t.getD i 0) 0:=by
  induction i generalizing t with
  |zero=>
    match t,hi with
    |s::t,hi=>
      grind [gb,encA]
  |succ i ih=>
    match t,hi with
    |s::t,hi=>
      grind [encA]
theorem iV.GI (h:iV L C ns):∀t:List Nat,(∀s ∈ t,1≤ns.getD s 0)→∀a ∈ encA L C ns t,a<2^L
  |[],_,a,ha=>by simp[encA] at ha
  |s::t,hs,a,ha=>by
    have ih:=h.GI t fun x hx=>hs x (List.mem_cons_of_mem _ hx)
    have h1:=hs s List.mem_cons_self;simp only[encA,List.mem_cons] at ha;rcases ha with rfl|ha
    · split
      · exact(h.occ Om).1
      · rename_i hl;refine(h.step h1 ?_).1;have:1<(encA L C ns t).length:=Om;simp_all
    · exact ih a ha
theorem iV.BA (h:iV L C ns) {t:List Nat} (hs:∀s ∈ t,1≤ns.getD s 0) (i:Nat):(encA L C ns t).getD i 0<2^L:=by
  rcases Nat.lt_or_ge i (encA L C ns t).length with hi|hi
  · exact h.GI t hs _ (by simp[List.getD_eq_getElem?_getD,hi])
  · grind
theorem iV.text (h:iV L C ns) {t:List Nat} (hs:∀s ∈ t,1≤ns.getD s 0) (h2:2≤t.length):lk L (buildD L C ns) t (encA L C ns t):=by
  have hg:∀i,i<t.length→1≤ns.getD (t.getD i 0) 0:=fun i hi=>hs _ (by simp[List.getD_eq_getElem?_getD,hi])
  refine⟨gb L C ns t,h2,h.GI t hs,fun i hi=>?_,fun i hi=>?_⟩
  · rcases Nat.lt_or_ge (i+2) t.length with h'|h'
    · rw[tB i t h'];exact(h.step (hg i hi) (h.BA hs _)).2.1
    · rw[u9 i t hi h',(h.occ (hg i hi)).2];rfl
  · have hc:=h.BA hs (i+2);obtain⟨_,_,s3,s4⟩:=h.step (hg i Om) hc;rw[tB i t hi,s3];omega
theorem iV.ends (h:iV L C ns) {t:List Nat} (hs:∀s ∈ t,1≤ns.getD s 0) (i:Nat) (hi:i<t.length) (h2:t.length≤i+2):1≤((buildD L C ns).getD ((encA L C ns t).getD i 0) (0,0,0)).2.1:=by
  have hg:1≤ns.getD (t.getD i 0) 0:=hs _ (by simp[List.getD_eq_getElem?_getD,hi]);rw[u9 i t hi h2,(h.occ hg).2];show 1≤L-(aq (ns.getD (t.getD i 0) 0+0)-1);have h3:=h.le (t.getD i 0);have h4:=cS h3;grind
theorem iV.bits (h:iV L C ns) {t:List Nat} (hs:∀s ∈ t,1≤ns.getD s 0) {i:Nat} (hi:i+2<t.length):
    fN (buildD L C ns) ((encA L C ns t).drop i)=bg L (ns.getD (t.getD i 0) 0) ((encA L C ns t).getD (i+2) 0+2^L)+fN (buildD L C ns) ((encA L C ns t).drop (i+1))∧
    fR (buildD L C ns) ((encA L C ns t).drop i)=((encA L C ns t).getD (i+2) 0+2^L)%2^bg L (ns.getD (t.getD i 0) 0) ((encA L C ns t).getD (i+2) 0+2^L)*2^fN (buildD L C ns) ((encA L C ns t).drop (i+1))+fR (buildD L C ns) ((encA L C ns t).drop (i+1)):=by
  have hg:1≤ns.getD (t.getD i 0) 0:=hs _ (by simp[List.getD_eq_getElem?_getD,show i<t.length by omega]);obtain⟨e1,e2⟩:=tm (T:=buildD L C ns) (at_:=encA L C ns t) (i:=i) (by rw[gb];exact hi);obtain⟨_,_,s3,s4⟩:=h.step hg (h.BA hs (i+2));grind [tB]
end
theorem bx.laid {log:Nat} {cs:List Int} (h:bx log cs):iV log (cY log cs) (a4 cs):=⟨by rcases h.lg with h|h<;>omega,ke,tx h,h.GH⟩
def dL (ns:List Nat) (s:Nat):Nat:=(ns.take s).sum
theorem eh {ns:List Nat} {s:Nat}:dL ns (s+1)=dL ns s+ns.getD s 0:=by
  unfold dL;rcases Nat.lt_or_ge s ns.length with h|h
  · rw[List.take_succ_eq_append_getElem h,List.sum_append];simp[List.getD_eq_getElem?_getD,h]
  · rw[List.take_of_length_le h,List.take_of_length_le Om,List.getD_eq_getElem?_getD,List.getElem?_eq_none h];rfl
theorem u' {ns:List Nat} {s t:Nat} (h:s<t):dL ns s+ns.getD s 0≤dL ns t:=by
  induction t with
  |zero=>omega
  |succ t ih=>
    grind [eh]
theorem DT (ns:List Nat):dL ns ns.length=ns.sum:=by unfold dL;rw[List.take_length]
theorem kP {ns:List Nat} {s:Nat}:dL ns s≤ns.sum:=by
  unfold dL;have:=congrArg List.sum (List.take_append_drop s ns);grind
theorem OI {ns:List Nat} {s t i j:Nat} (hi:i<ns.getD s 0) (hj:j<ns.getD t 0) (h:dL ns s+i=dL ns t+j):s=t∧i=j:=by
  rcases Nat.lt_trichotomy s t with h1|h1|h1
  · have:=u' (ns:=ns) h1;omega
  · grind
  · have:=u' (ns:=ns) h1;omega
def tC (Z:Nat) (C ns S:List Nat) (u:Nat):Prop:=∀w,w<u→S.getD (dL ns (C.getD w 0)+(C.take w).count (C.getD w 0)) 0=Z+w
def mH (C ns M:List Nat) (u:Nat):Prop:=∀s,s<ns.length→M.getD s 0=dL ns s+(C.take u).count s
theorem iE {C:List Nat} {u:Nat} (hu:u<C.length) (s:Nat):(C.take (u+1)).count s=(C.take u).count s+if C.getD u 0=s then 1 else 0:=by
  rw[List.take_succ_eq_append_getElem hu,List.count_append,List.count_singleton];grind
theorem lW {C ns:List Nat} (tA:∀x,C.count x=ns.getD x 0) {u:Nat} (hu:u<C.length):(C.take u).count (C.getD u 0)<ns.getD (C.getD u 0) 0:=by
  have h1:=iE hu (C.getD u 0);rw[if_pos rfl] at h1;have h2:=(List.take_sublist (u+1) C).count_le (C.getD u 0);grind
theorem tC.step {Z u:Nat} {C ns S:List Nat} (h:tC Z C ns S u) (tA:∀x,C.count x=ns.getD x 0) (hu:u<C.length) (hS:dL ns (C.getD u 0)+(C.take u).count (C.getD u 0)<S.length):tC Z C ns (S.set (dL ns (C.getD u 0)+(C.take u).count (C.getD u 0)) (Z+u)) (u+1):=fun w hw=>by
  rw[aS hS];split
  · rename_i e;have W4:w<C.length:=Om;obtain⟨e1,e2⟩:=OI (lW tA hu) (lW tA W4) e;grind [occC,JZ]
  · rename_i e;refine h w (Nat.lt_of_le_of_ne Om fun hh=>e ?_);rw[hh]
theorem mH.step {u:Nat} {C ns M:List Nat} (h:mH C ns M u) (hu:u<C.length) (jO:C.getD u 0<ns.length) (hM:ns.length≤M.length):mH C ns (M.set (C.getD u 0) (M.getD (C.getD u 0) 0+1)) (u+1):=fun s hs=>by
  rw[aS Om,iE hu];have h0:=h s hs;grind
theorem tC.get {Z:Nat} {C ns S:List Nat} (h:tC Z C ns S C.length) (tA:∀x,C.count x=ns.getD x 0) {s j:Nat} (hj:j<ns.getD s 0):S.getD (dL ns s+j) 0=Z+occC C s j:=by
  obtain⟨h1,h2,h3⟩:=wV C s j (by rw[tA];exact hj);have:=h _ h1;grind
def fillT (L:Nat):Nat→List Nat→List Nat→List Nat→List Nat
  |_,[],_,dt=>dt
  |n,w::ws,r,dt=>if w=0 then fillT L (n+1) ws r dt else fillT L (n+1) ws (r.set w (r.getD w 0+2^(w-1))) (cQ dt (r.getD w 0) (List.replicate (2^(w-1)) (L+1-w+256*n)))
def reg (r ws:List Nat) (w v:Nat):Prop:=0<w∧r.getD w 0≤v∧v<r.getD w 0+ws.count w*2^(w-1)
structure ju (r ws dt:List Nat):Prop where
  Xh:r.length=16
  w16:∀w ∈ ws,w<16
  fit:∀w,0<w→w ∈ ws→r.getD w 0+ws.count w*2^(w-1)≤dt.length
  dis:∀w w' v,reg r ws w v→reg r ws w' v→w=w'
theorem DU {n v q:Nat} (h:q<n):(List.replicate n v).getD q 0=v:=by simp[List.getD_eq_getElem?_getD,h]
theorem ju.skip {r ws dt:List Nat} (h:ju r (0::ws) dt):ju r ws dt:=by
  have hc:∀w,0<w→(0::ws).count w=ws.count w:=fun w hw=>by rw[List.count_cons_of_ne Om]
  refine⟨h.Xh,fun w hw=>h.w16 w (List.mem_cons_of_mem _ hw),fun w h0 h1=>by rw[←hc w h0];exact h.fit w h0 (List.mem_cons_of_mem _ h1),fun w w' v h1 h2=>h.dis w w' v ?_ ?_⟩
  · exact⟨h1.1,h1.2.1,by rw[hc w h1.1];exact h1.2.2⟩
  · exact⟨h2.1,h2.2.1,by rw[hc w' h2.1];exact h2.2.2⟩
theorem tD {r ws:List Nat} {w x v:Nat} (hr:r.length=16) (hw:w<16) (h0:0<w) (h:reg (r.set w (r.getD w 0+2^(w-1))) ws x v):reg r (w::ws) x v∧(x=w→r.getD w 0+2^(w-1)≤v):=by
  obtain⟨h1,h2,h3⟩:=h;rw[gz Om] at h2 h3;by_cases e:w=x
  · subst e;rw[if_pos rfl] at h2 h3;refine⟨⟨h1,Nat.le_trans (Nat.le_add_right _ _) h2,?_⟩,fun _=>h2⟩;rw[List.count_cons_self,Nat.add_mul,Nat.one_mul];omega
  · rw[if_neg e] at h2 h3;exact⟨⟨h1,h2,by rw[List.count_cons_of_ne Om];exact h3⟩,fun h=>(e h.symm).elim⟩
theorem ju.Lw {r ws dt:List Nat} {w:Nat} (h:ju r (w::ws) dt) (h0:0<w):r.getD w 0+2^(w-1)≤dt.length:=by
  have:=h.fit w h0 List.mem_cons_self;rw[List.count_cons_self,Nat.add_mul,Nat.one_mul] at this;omega
theorem ju.step {r ws dt dt':List Nat} {w:Nat} (h:ju r (w::ws) dt) (h0:0<w) (hd:dt'.length=dt.length):ju (r.set w (r.getD w 0+2^(w-1))) ws dt':=by
  have hw:=h.w16 w List.mem_cons_self;refine⟨by simp[h.Xh],fun x hx=>h.w16 x (List.mem_cons_of_mem _ hx),fun x J0 hx=>?_,fun x y v h1 h2=>h.dis x y v (tD h.Xh hw h0 h1).1 (tD h.Xh hw h0 h2).1⟩;have:=h.fit x J0 (List.mem_cons_of_mem _ hx);rw[gz (by rw[h.Xh];exact hw),hd];by_cases e:w=x
  · subst e;rw[List.count_cons_self,Nat.add_mul,Nat.one_mul] at this;grind
  · grind
theorem nI {L:Nat}:∀(ws r dt:List Nat) (n:Nat),ju r ws dt→(fillT L n ws r dt).length=dt.length
  |[],r,dt,n,_=>rfl
  |w::ws,r,dt,n,h=>by
    unfold fillT;by_cases e:w=0
    · subst e;rw[if_pos rfl];exact nI ws r dt _ h.skip
    · rw[if_neg e];have hl:(cQ dt (r.getD w 0) (List.replicate (2^(w-1)) (L+1-w+256*n))).length=dt.length:=aV (by simp;exact h.Lw Om);rw[nI ws _ _ _ (h.step Om hl),hl]
theorem va {L:Nat}:∀(ws r dt:List Nat) (n v:Nat),ju r ws dt→(∀w,¬reg r ws w v)→(fillT L n ws r dt).getD v 0=dt.getD v 0
  |[],r,dt,n,v,_,_=>rfl
  |w::ws,r,dt,n,v,h,hv=>by
    unfold fillT;by_cases e:w=0
    · subst e;rw[if_pos rfl];refine va ws r dt _ v h.skip fun x hx=>hv x ⟨hx.1,hx.2.1,?_⟩
      have h1:=hx.1;rw[List.count_cons_of_ne Om];exact hx.2.2
    · rw[if_neg e];have zB:=h.Lw Om;have hl:(cQ dt (r.getD w 0) (List.replicate (2^(w-1)) (L+1-w+256*n))).length=dt.length:=aV (by simp;exact zB);rw[va ws _ _ _ v (h.step Om hl) fun x hx=>hv x (tD h.Xh (h.w16 w List.mem_cons_self) Om hx).1];rw[mG (by simp;exact zB),if_neg];intro ⟨h1,h2⟩;rw[List.length_replicate] at h2;refine hv w ⟨Om,h1,Nat.lt_of_lt_of_le h2 ?_⟩;rw[List.count_cons_self,Nat.add_mul,Nat.one_mul];omega
theorem xP {L:Nat}:∀(ws r dt:List Nat) (n s v:Nat),ju r ws dt→s<ws.length→0<ws.getD s 0→r.getD (ws.getD s 0) 0+(ws.take s).count (ws.getD s 0)*2^(ws.getD s 0-1)≤v→
      v<r.getD (ws.getD s 0) 0+((ws.take s).count (ws.getD s 0)+1)*2^(ws.getD s 0-1)→(fillT L n ws r dt).getD v 0=L+1-ws.getD s 0+256*(n+s)
  |[],r,dt,n,s,v,_,hs,_,_,_=>by simp at hs
  |w::ws,r,dt,n,0,v,h,hs,h0,h1,h2=>by
    simp only[List.getD_cons_zero,List.take_zero,List.count_nil,Nat.zero_mul,Nat.add_zero,Nat.zero_add,Nat.one_mul] at h0 h1 h2 ⊢;unfold fillT;rw[if_neg Om];have zB:=h.Lw h0;have hl:(cQ dt (r.getD w 0) (List.replicate (2^(w-1)) (L+1-w+256*n))).length=dt.length:=aV (by simp;exact zB);rw[va ws _ _ _ v (h.step h0 hl) fun x hx=>?_]
    · grind [mG,DU]
    · obtain⟨OJ,zi⟩:=tD h.Xh (h.w16 w List.mem_cons_self) h0 hx;have hw:reg r (w::ws) w v:=⟨h0,h1,by rw[List.count_cons_self,Nat.add_mul,Nat.one_mul];omega⟩;have:=h.dis x w v OJ hw;omega
  |w::ws,r,dt,n,s+1,v,h,hs,h0,h1,h2=>by
    simp only[List.getD_cons_succ,List.take_succ_cons] at h0 h1 h2 ⊢;have hs':s<ws.length:=by simpa using hs
    unfold fillT;rw[show n+(s+1)=n+1+s by omega];by_cases e:w=0
    · subst e;rw[if_pos rfl];rw[List.count_cons_of_ne Om] at h1 h2;exact xP ws r dt (n+1) s v h.skip hs' h0 h1 h2
    · rw[if_neg e];have zB:=h.Lw Om;have hl:(cQ dt (r.getD w 0) (List.replicate (2^(w-1)) (L+1-w+256*n))).length=dt.length:=aV (by simp;exact zB);refine xP ws _ _ (n+1) s v (h.step Om hl) hs' h0 ?_ ?_
      · rw[gz (by rw[h.Xh];exact h.w16 w List.mem_cons_self)];by_cases e2:w=ws.getD s 0
        · rw[if_pos e2];rw[e2,List.count_cons_self,Nat.add_mul,Nat.one_mul] at h1;rw[e2];omega
        · grind
      · rw[gz (by rw[h.Xh];exact h.w16 w List.mem_cons_self)];grind
def startW (ws:List Nat):Nat→Nat
  |0=>0
  |w+1=>startW ws w+(if w=0 then 0 else ws.count w*2^(w-1))
theorem eG (ws:List Nat) {a b:Nat} (h:a≤b):startW ws a≤startW ws b:=by
  induction b with
  |zero=>
    grind
  |succ b ih=>
    rcases Nat.lt_or_ge a (b+1) with h'|h'
    · exact Nat.le_trans (ih Om) (Nat.le_add_right _ _)
    · grind
theorem gd {ws:List Nat} {w:Nat} (h:0<w):startW ws (w+1)=startW ws w+ws.count w*2^(w-1):=by
  grind [startW]
theorem xQ (ws:List Nat) {w:Nat} (h0:0<w):∀m,w≤m→2^(w-1)∣startW ws m-startW ws w
  |0,h=>by omega
  |m+1,h=>by
    rcases Nat.lt_or_ge w (m+1) with h'|h'
    · have ih:=xQ ws h0 m Om;rw[gd Om];have hm:=eG ws (show w≤m by omega);rw[show startW ws m+ws.count m*2^(m-1)-startW ws w=(startW ws m-startW ws w)+ws.count m*2^(m-1) by omega];refine Nat.dvd_add ih (Nat.dvd_mul_left_of_dvd (Nat.pow_dvd_pow 2 Om) _)
    · have:w=m+1:=Om;simp_all
def DV (L:Nat) (ws:List Nat) (s:Nat):Nat × Nat:=(L+1-ws.getD s 0,startW ws (ws.getD s 0)/2^(ws.getD s 0-1)+(ws.take s).count (ws.getD s 0))
theorem zC {ws:List Nat} {s:Nat} (hs:s<ws.length):(ws.take s).count (ws.getD s 0)+1≤ws.count (ws.getD s 0):=by
  have hg:ws.getD s 0=ws[s]:=by simp[hs]
  have h1:(ws.take (s+1)).count ws[s]=(ws.take s).count ws[s]+1:=by rw[List.take_succ_eq_append_getElem hs,List.count_append,List.count_singleton_self]
  rw[hg, ←h1];exact(List.take_sublist _ _).count_le _
theorem xR {L:Nat} {ws r dt:List Nat} (hL:1≤L) (oD:L≤11) (hlen:ws.length≤256) (hw:∀w ∈ ws,w≤L) (hr:r.length=16) (ie:∀w,0<w→w≤L→r.getD w 0=startW ws w) (rX:startW ws (L+1)=2^L) (hdt:dt.length=2048):
    wD (fillT L 0 ws r dt) L (DV L ws) (fun s=>s<ws.length∧0<ws.getD s 0)∧(fillT L 0 ws r dt).length=2048:=by
  have pos:∀m:Nat,0<2^m:=fun m=>Nat.pow_pos Om
  have hLL:(2:Nat)^L≤2^11:=Nat.pow_le_pow_right Om oD;have aco:∀w,L<w→ws.count w=0:=fun w h=>List.count_eq_zero.2 fun hm=>by have:=hw w hm;omega
  have DW:∀w v,reg r ws w v→w≤L∧startW ws w≤v∧v<startW ws (w+1):=fun w v h=>by
    rcases Nat.lt_or_ge L w with h'|h'
    · have:=h.2.2;rw[aco w h'] at this;have:=h.2.1;omega
    · have h1:=h.2.1;have h2:=h.2.2;rw[ie w h.1 h'] at h1 h2;exact⟨h',h1,by rw[gd h.1];exact h2⟩
  have ok:ju r ws dt:=by
    refine⟨hr,fun w h=>by have:=hw w h;omega,fun w h0 CY=>?_,fun w w' v h1 h2=>?_⟩
    · have h':=hw w CY;rw[ie w h0 h', ←gd h0];have:=eG ws (show w+1≤L+1 by omega);omega
    · obtain⟨_,a1,a2⟩:=DW w v h1;obtain⟨_,b1,b2⟩:=DW w' v h2;rcases Nat.lt_trichotomy w w' with h|h|h
      · have:=eG ws (show w+1≤w' by omega);omega
      · exact h
      · have:=eG ws (show w'+1≤w by omega);omega
  refine⟨⟨hL,oD,fun s hs=>?_,fun s hs v hv he=>?_⟩,by rw[nI ws r dt 0 ok];exact hdt⟩;all_goals
    have hm:ws.getD s 0≤L:=hw _ (by simp[hs.1]);have hdv:=xQ ws hs.2 (L+1) Om;have hle:=eG ws (show ws.getD s 0≤L+1 by omega);have Xi:=eG ws (show ws.getD s 0+1≤L+1 by omega);rw[gd hs.2] at Xi;have hc:=zC hs.1;rw[rX] at hdv hle Xi;have h2:2^(ws.getD s 0-1)∣startW ws (ws.getD s 0):=by
      have:=Nat.dvd_sub (Nat.pow_dvd_pow 2 (show ws.getD s 0-1≤L by omega)) hdv;rwa [show 2^L-(2^L-startW ws (ws.getD s 0))=startW ws (ws.getD s 0) by omega] at this
    obtain⟨q,hq⟩:=h2;have hqd:startW ws (ws.getD s 0)/2^(ws.getD s 0-1)=q:=by rw[hq,Nat.mul_div_cancel_left _ (pos _)]
    have hqm:startW ws (ws.getD s 0)=q*2^(ws.getD s 0-1):=by rw[hq,Nat.mul_comm]
  · refine⟨Om,by show 1≤L+1-_;omega,by show L+1-_≤L;omega,?_⟩;show startW ws (ws.getD s 0)/2^(ws.getD s 0-1)+_<2^(L+1-ws.getD s 0);rw[hqd];have e:(2:Nat)^L=2^(L+1-ws.getD s 0)*2^(ws.getD s 0-1):=by rw[←Nat.pow_add];congr 1;omega
    rw[hqm,e, ←Nat.add_mul] at Xi;have:=Nat.le_of_mul_le_mul_right Xi (pos _);omega
  · have e1:L-(DV L ws s).1=ws.getD s 0-1:=by show L-(L+1-ws.getD s 0)=_;omega
    rw[e1] at he;have e2:(DV L ws s).2=q+(ws.take s).count (ws.getD s 0):=by show _/_+_=_;rw[hqd]
    rw[e2] at he;have wB:(q+(ws.take s).count (ws.getD s 0))*2^(ws.getD s 0-1)≤v:=by rw[←he];exact Nat.div_mul_le_self _ _
    have vJ:v<(q+(ws.take s).count (ws.getD s 0)+1)*2^(ws.getD s 0-1):=by
      rw[←he];exact Nat.lt_mul_of_div_lt (Nat.lt_succ_self _) (pos _)
    rw[Nat.add_assoc,Nat.add_mul, ←hqm] at vJ;rw[Nat.add_mul, ←hqm] at wB;have:=xP (L:=L) ws r dt 0 s v ok hs.1 hs.2 (by rw[ie _ hs.2 hm];exact wB) (by rw[ie _ hs.2 hm];exact vJ);rw[this];show _=L+1-_+_;omega
def kQ (ls:List Nat) (L last:Nat):List Nat:=(ls.take (last+1)).map (u6 L)
theorem HW.J1 {ls:List Nat} {L last:Nat} (h:HW ls L last) (i:Nat):ls.getD i 0≤L:=h.le.at_ i
theorem HW.L1 {ls:List Nat} {L last:Nat} (h:HW ls L last):1≤L:=by
  have:=h.J1 last;have:=h.nz;omega
theorem Xj {L a b:Nat} (ha:a≤L) (hb:b≤L) (h:u6 L a=u6 L b):a=b:=by
  grind [u6]
theorem vb {L n:Nat} (hn:n≤L):∀xs:List Nat,dY xs L→(xs.map (u6 L)).count (u6 L n)=xs.count n
  |[],_=>rfl
  |x::xs,h=>by
    have ih:=vb hn xs (fun y hy=>h y (List.mem_cons_of_mem _ hy));have hx:=h x List.mem_cons_self;grind [u6,Xj]
theorem dY.OL {xs:List Nat} {b:Nat} (h:dY xs b) (i:Nat):dY (xs.take i) b:=fun x hx=>h x (List.mem_of_mem_take hx)
theorem vR {ls:List Nat} {L last:Nat} (h:HW ls L last):(kQ ls L last).length=last+1:=by
  have:=h.lt;simp[kQ];omega
theorem DX {ls:List Nat} {L last s:Nat} (h:HW ls L last) (hs:s≤last):(kQ ls L last).getD s 0=u6 L (ls.getD s 0):=by
  have:=h.lt;grind [kQ]
theorem BB {ls:List Nat} {L last:Nat}:∀w ∈ kQ ls L last,w≤L:=fun w hw=>by
  grind [kQ,u6]
theorem Ao {ls:List Nat} {L last:Nat} (h:HW ls L last):∀x ∈ ls.drop (last+1),x=0:=fun x hx=>by
  obtain⟨i,hi,rfl⟩:=List.getElem_of_mem hx;have:=h.z (last+1+i) Om;grind
theorem DY {ls:List Nat} {L last n:Nat} (h:HW ls L last) (hn:1≤n):(ls.take (last+1)).count n=ls.count n:=by
  have e:ls.count n=(ls.take (last+1)).count n+(ls.drop (last+1)).count n:=by rw[←List.count_append,List.take_append_drop]
  have:(ls.drop (last+1)).count n=0:=List.count_eq_zero.2 fun hm=>by have:=Ao h n hm;omega
  omega
theorem xS {ls:List Nat} {L last n:Nat} (h:HW ls L last) (hn:1≤n) (hnL:n≤L):(kQ ls L last).count (L+1-n)=ls.count n:=by
  have e:L+1-n=u6 L n:=by unfold u6;rw[if_neg Om]
  rw[e,kQ,vb hnL _ (h.le.OL _),DY h hn]
theorem J2 {ls:List Nat} {L:Nat} (h:dY ls L):∀d,d+L≤11→nx ls d=0
  |0,_=>rfl
  |d+1,hd=>by
    have h0:ls.count (11-d)=0:=List.count_eq_zero.2 fun hm=>by have:=h _ hm;omega
    simp only[nx,J2 h d Om,h0]
theorem wW {ls:List Nat} {L:Nat} (h:dY ls L) (hL:L≤11):CZ ls L=0:=J2 h _ Om
theorem Ap {ls:List Nat} {L last:Nat} (h:HW ls L last) (hL:L≤11) (he:ib ls):∀w,1≤w→w≤L+1→startW (kQ ls L last) w=CZ ls (L+1-w)*2^(w-1)
  |0,h0,_=>by omega
  |1,_,_=>by rw[Nat.add_sub_cancel,wW h.le hL];simp[startW]
  |w+2,_,hw=>by
    have ih:=Ap h hL he (w+1) Om Om;rw[gd Om,ih];have hc:=xS h (n:=L-w) Om Om;rw[show L+1-(L-w)=w+1 by omega] at hc;have hp:=xJ ls (m:=L-w) Om Om;have hv:=he (L-w) Om Om;rw[hc,show L+1-(w+1)=L-w by omega,show L+1-(w+2)=L-w-1 by omega,hp,Nat.add_sub_cancel,show w+2-1=w+1 by omega,Nat.pow_succ, ←Nat.add_mul];generalize CZ ls (L-w)+ls.count (L-w)=q at hv;obtain⟨r,rfl⟩:∃r,q=r*2:=⟨q/2,Om⟩;grind
theorem Xk {ls:List Nat} {L last s:Nat} (h:HW ls L last) (hL:L≤11) (he:ib ls) (hs:1≤ls.getD s 0):DV L (kQ ls L last) s=lH ls s∧s≤last:=by
  have j6:s≤last:=Classical.byContradiction fun hn=>by have:=h.z s Om;omega
  have hn:=h.J1 s;refine⟨?_,j6⟩;have hg:=DX h j6;have hw:u6 L (ls.getD s 0)=L+1-ls.getD s 0:=by unfold u6;rw[if_neg Om]
  unfold DV lH jr;rw[hg];refine Prod.ext (by rw[hw];omega) ?_;show startW _ _/_+_=_;rw[hw,Ap h hL he _ Om Om,Nat.mul_div_cancel _ (Nat.pow_pos Om),show L+1-(L+1-ls.getD s 0)=ls.getD s 0 by omega];congr 1;have e:(kQ ls L last).take s=(ls.take s).map (u6 L):=by
    rw[kQ, ←List.map_take,List.take_take,Nat.min_eq_left Om]
  rw[e, ←hw,vb hn _ (h.le.OL _)]
def cellsW:List Nat→Nat
  |[]=>0
  |w::ws=>(if w=0 then 0 else 2^(w-1))+cellsW ws
theorem rr:∀a b:List Nat,cellsW (a++b)=cellsW a+cellsW b
  |[],b=>by simp[cellsW]
  |x::a,b=>by simp only[List.cons_append,cellsW,rr a b];omega
theorem xT:∀m,startW [] m=0
  |0=>rfl
  |m+1=>by simp only[startW,xT m];split<;>simp
theorem vS (x:Nat) (ws:List Nat):∀m,startW (x::ws) m=startW ws m+(if x=0∨m≤x then 0 else 2^(x-1))
  |0=>by simp[startW]
  |m+1=>by
    simp only[startW,vS x ws m];grind
theorem lu {L:Nat}:∀ws:List Nat,(∀w ∈ ws,w≤L)→startW ws (L+1)=cellsW ws
  |[],_=>xT _
  |x::ws,h=>by
    have hx:=h x List.mem_cons_self;rw[vS,lu ws (fun w hw=>h w (List.mem_cons_of_mem _ hw)),cellsW];grind
theorem vT {L:Nat} (hL:L≤11):∀xs:List Nat,dY xs L→cellsW (xs.map (u6 L))*2^(11-L)=gy xs
  |[],_=>by simp[cellsW,gy]
  |x::xs,h=>by
    have ih:=vT hL xs (fun y hy=>h y (List.mem_cons_of_mem _ hy));have hx:=h x List.mem_cons_self;rw[List.map_cons,cellsW,gy,Nat.add_mul,ih];congr 1;unfold u6;by_cases e:x=0
    · grind
    · rw[if_neg e,if_neg Om,if_neg e, ←Nat.pow_add];congr 1;omega
theorem GJ {ls:List Nat} {L last:Nat} (h:HW ls L last):gy (ls.take (last+1))=gy ls:=by
  have e:gy ls=gy (ls.take (last+1))+gy (ls.drop (last+1)):=by rw[←ts,List.take_append_drop]
  have hz:∀xs:List Nat,(∀x ∈ xs,x=0)→gy xs=0:=fun xs=>by
    induction xs with
    |nil=>intro _;rfl
    |cons x xs ih=>intro hx;simp only[gy,hx x List.mem_cons_self,ih fun y hy=>hx y (List.mem_cons_of_mem _ hy)];rfl
  grind [Ao]
theorem pg {ls:List Nat} {L last:Nat} (h:HW ls L last) (hw:gL ls) (hL:L≤11):cellsW (kQ ls L last)=2^L:=by
  have h1:=vT hL (ls.take (last+1)) (h.le.OL _);rw[GJ h,hw.2.2.1,show(2048:Nat)=2^L*2^(11-L) by rw[←Nat.pow_add,show L+(11-L)=11 by omega]] at h1;exact Nat.eq_of_mul_eq_mul_right (Nat.pow_pos Om) h1
theorem Aq {ls:List Nat} {L last:Nat} (h:HW ls L last):kQ ls L last=bM ls L last++[u6 L (ls.getD last 0)]:=by
  rw[kQ,iT h.lt,List.map_append];rfl
theorem HW.L11 {ls:List Nat} {L last:Nat} (h:HW ls L last) (hw:gL ls):L≤11:=by
  obtain⟨p,hp,rfl⟩:=h.at_;exact hw.2.1.at_ p
theorem ph {ls:List Nat} {L last:Nat} (h:HW ls L last) (hw:gL ls):cellsW (bM ls L last)+2^(L-ls.getD last 0)=2^L∧1≤ls.getD last 0∧ls.getD last 0≤L:=by
  have h1:=pg h hw (h.L11 hw);have h2:=h.nz;have h3:=h.J1 last;grind [Aq,rr,cellsW,u6]
theorem DZ {ls:List Nat} {L last:Nat} (h:HW ls L last) (hw:gL ls):aq (cellsW (bM ls L last))=L∧2^(L-1)≤cellsW (bM ls L last):=by
  obtain⟨h1,h2,h3⟩:=ph h hw;have hp:(2:Nat)^(L-ls.getD last 0)≤2^(L-1):=Nat.pow_le_pow_right Om Om;have hq:(2:Nat)^L=2^(L-1)*2:=by rw[←Nat.pow_succ];congr 1;omega
  have rR:=Nat.pow_pos (n:=L-ls.getD last 0) (show 0<2 by omega);have a:=cS (n:=cellsW (bM ls L last)) (k:=L) Om;have b:=iD (cellsW (bM ls L last));have c:L-1<aq (cellsW (bM ls L last)):=(Nat.pow_lt_pow_iff_right Om).1 (Nat.lt_of_le_of_lt (show 2^(L-1)≤_ by omega) b);omega
theorem BC {ls:List Nat} {L last:Nat} (h:HW ls L last) (hL:L≤11) (he:ib ls):2≤(kQ ls L last).count 1∧(kQ ls L last).count 1%2=0:=by
  have hc:=xS h (n:=L) h.L1 (Nat.le_refl _);rw[show L+1-L=1 by omega] at hc;have h1:=he L h.L1 hL;rw[wW h.le hL,Nat.zero_add] at h1;obtain⟨p,hp,MH⟩:=h.at_;grind
structure tE (H P:List Nat):Prop where
  len:H.length=64
  sum:∀v,v<16→H.getD v 0+H.getD (16+v) 0+H.getD (32+v) 0+H.getD (48+v) 0=P.count v
theorem tE.zero:tE (List.replicate 64 0) []:=⟨List.length_replicate,fun v hv=>by rw[qw,qw,qw,qw];rfl⟩
theorem tE.step {H P:List Nat} (h:tE H P) {a x:Nat} (hx:x<16) (ha:a=x∨a=16+x∨a=32+x∨a=48+x):tE (H.set a (H.getD a 0+1)) (P++[x]):=by
  have hl:=h.len;have g:∀j,(H.set a (H.getD a 0+1)).getD j 0=H.getD j 0+if a=j then 1 else 0:=fun j=>by
    grind
  refine⟨by rw[List.length_set];exact hl,fun v hv=>?_⟩;rw[g,g,g,g,List.count_append, ←h.sum v hv];grind
theorem tE.le {H P:List Nat} (h:tE H P) {v:Nat} (hv:v<16):H.getD v 0≤P.length∧H.getD (16+v) 0≤P.length∧H.getD (32+v) 0≤P.length∧H.getD (48+v) 0≤P.length:=by
  have h1:=h.sum v hv;grind
def tF (R P:List Nat) (n:Nat):Prop:=∀v,v<n→R.getD v 0=P.count v
theorem tF.step {R P:List Nat} {n x:Nat} (h:tF R P n) (hn:n<R.length) (hx:x=P.count n):tF (R.set n x) P (n+1):=fun v hv=>by
  rw[gz hn];by_cases e:n=v
  · grind
  · rw[if_neg e];exact h v Om
theorem tF.last {R P:List Nat} {n x:Nat} (h:tF R P n) (hn:n≤R.length) (hx:x<n):tF (R.set x (R.getD x 0+1)) (P++[x]) n:=fun v hv=>by
  rw[gz Om,List.count_append];by_cases e:x=v
  · subst e;rw[if_pos rfl,h x hx];simp
  · rw[if_neg e,h v hv];simp[e]
theorem Ar {ws:List Nat} {i L:Nat} (h:∀w ∈ ws,w≤L) (hs:cellsW ws≤2048) (hi:1≤i):startW ws i+ws.count i*2^(i-1)=startW ws (i+1)∧startW ws (i+1)≤2048:=by
  refine⟨(gd hi).symm,?_⟩;have h1:=lu (L:=max L i) ws fun w hw=>Nat.le_trans (h w hw) (Nat.le_max_left _ _)
  have h2:=eG ws (show i+1≤max L i+1 by have:=Nat.le_max_right L i;omega);omega
structure rY (R ws:List Nat) (n:Nat):Prop where
  low:∀v,1≤v→v<n→R.getD v 0=startW ws v
  high:∀v,n≤v→v<16→R.getD v 0=ws.count v
theorem rY.init {R ws:List Nat} (h:tF R ws 16):rY R ws 1:=⟨fun v h1 h2=>Om,fun v _ h2=>h v h2⟩
theorem rY.step {R ws:List Nat} {n x:Nat} (h:rY R ws n) (hl:R.length=16) (hn:n<16) (hx:x=startW ws n):rY (R.set n x) ws (n+1):=by
  refine⟨fun v h1 h2=>?_,fun v h1 h2=>?_⟩
  · rw[gz Om];by_cases e:n=v
    · grind
    · rw[if_neg e];exact h.low v h1 Om
  · rw[gz Om,if_neg Om];exact h.high v Om h2
theorem OM (k:Nat):aq (2^k)=k+1:=qE (by rw[Nat.add_sub_cancel];exact Nat.le_refl _) (Nat.pow_lt_pow_right Om Om) Om
theorem Lx {ws:List Nat} {L w:Nat} (hws:∀x ∈ ws,x≤L) (rX:cellsW ws=2^L) (hw:w≤L):startW ws (w+1)≤2^L:=by
  rw[←rX, ←lu ws hws];simp_all [eG]
theorem Xl {L:Nat} {ws r dt:List Nat} (oD:L≤11) (hw:∀w ∈ ws,w≤L) (hr:r.length=16) (ie:∀w,0<w→w≤L→r.getD w 0=startW ws w) (rX:cellsW ws=2^L) (hdt:dt.length=2048):ju r ws dt:=by
  have hLL:(2:Nat)^L≤2^11:=Nat.pow_le_pow_right Om oD;have aco:∀w,L<w→ws.count w=0:=fun w h=>List.count_eq_zero.2 fun hm=>by have:=hw w hm;omega
  have DW:∀w v,reg r ws w v→w≤L∧startW ws w≤v∧v<startW ws (w+1):=fun w v h=>by
    rcases Nat.lt_or_ge L w with h'|h'
    · have:=h.2.2;rw[aco w h'] at this;have:=h.2.1;omega
    · have h1:=h.2.1;have h2:=h.2.2;rw[ie w h.1 h'] at h1 h2;exact⟨h',h1,by rw[gd h.1];exact h2⟩
  refine⟨hr,fun w h=>by have:=hw w h;omega,fun w h0 CY=>?_,fun w w' v h1 h2=>?_⟩
  · have h':=hw w CY;rw[ie w h0 h', ←gd h0];have:=Lx hw rX h';omega
  · obtain⟨_,a1,a2⟩:=DW w v h1;obtain⟨_,b1,b2⟩:=DW w' v h2;rcases Nat.lt_trichotomy w w' with h|h|h
    · have:=eG ws (show w+1≤w' by omega);omega
    · exact h
    · have:=eG ws (show w'+1≤w by omega);omega
structure wF (L:Nat) (ws:List Nat) (n:Nat) (R D F:List Nat):Prop where
  eq:fillT L n (ws.drop n) R D=F
  ok:ju R (ws.drop n) D
  len:D.length=2048
theorem wF.skip {L n:Nat} {ws R D F:List Nat} (h:wF L ws n R D F) (hn:n<ws.length) (h0:ws.getD n 0=0):wF L ws (n+1) R D F:=by
  have e:=qx hn;rw[h0] at e;have h1:=h.eq;have h2:=h.ok;rw[e] at h1 h2;unfold fillT at h1;rw[if_pos rfl] at h1;exact⟨h1,h2.skip,h.len⟩
theorem wF.room {L n:Nat} {ws R D F:List Nat} (h:wF L ws n R D F) (hn:n<ws.length) (h0:ws.getD n 0≠0):R.getD (ws.getD n 0) 0+2^(ws.getD n 0-1)≤2048∧ws.getD n 0<16:=by
  have h2:=h.ok;rw[qx hn] at h2;have:=h2.Lw Om;rw[h.len] at this;exact⟨this,h2.w16 _ List.mem_cons_self⟩
theorem wF.step {L n:Nat} {ws R D F:List Nat} (h:wF L ws n R D F) (hn:n<ws.length) (h0:ws.getD n 0≠0):wF L ws (n+1) (R.set (ws.getD n 0) (R.getD (ws.getD n 0) 0+2^(ws.getD n 0-1))) (cQ D (R.getD (ws.getD n 0) 0) (List.replicate (2^(ws.getD n 0-1)) (L+1-ws.getD n 0+256*n))) F:=by
  have h1:=h.eq;have h2:=h.ok;rw[qx hn] at h1 h2;unfold fillT at h1;rw[if_neg h0] at h1;have hl:(cQ D (R.getD (ws.getD n 0) 0) (List.replicate (2^(ws.getD n 0-1)) (L+1-ws.getD n 0+256*n))).length=D.length:=aV (by rw[List.length_replicate];exact h2.Lw Om);exact⟨h1,h2.step Om hl,by rw[hl];exact h.len⟩
theorem wF.done {L n:Nat} {ws R D F:List Nat} (h:wF L ws n R D F) (hn:ws.length≤n):D=F:=by
  have h1:=h.eq;rwa [List.drop_of_length_le hn] at h1
theorem As (D:List Nat) (a e:Nat):cQ D a (List.replicate 0 e)=D:=by simp[cQ]
theorem D2 {D:List Nat} {a i e:Nat} (h:a+i<D.length):(cQ D a (List.replicate i e)).set (a+i) e=cQ D a (List.replicate (i+1) e):=by
  have l1:(cQ D a (List.replicate i e)).length=D.length:=aV (by rw[List.length_replicate];omega);have l2:(cQ D a (List.replicate (i+1) e)).length=D.length:=aV (by rw[List.length_replicate];omega);refine Ah (d:=0) (u:=D.length) (fun j hj=>?_) (by rw[List.length_set,l1,l2]) (by rw[List.length_set,l1];exact Nat.le_refl _);grind [gz,mG,DU]
theorem ON {n:Nat} (h:n<256):n&&&255=n:=by
  have:=Nat.and_two_pow_sub_one_eq_mod n 8;grind
theorem lN (n:Nat):n&&&15=n%16:=Nat.and_two_pow_sub_one_eq_mod n 4
theorem Xm (n:Nat):n&&&3=n%4:=Nat.and_two_pow_sub_one_eq_mod n 2
theorem oE (n:Nat):n&&&7=n%8:=Nat.and_two_pow_sub_one_eq_mod n 3
theorem OO (n:Nat):n&&&31=n%32:=Nat.and_two_pow_sub_one_eq_mod n 5
theorem aj5 (n:Nat):n&&&65535=n%65536:=Nat.and_two_pow_sub_one_eq_mod n 16
theorem Aj.at_ {xs bs:List Nat} {len p p':Nat} (h:Aj xs len p bs) (e:p'=p):Aj xs len p' bs:=e▸h
theorem OP {t n r:Nat} (h:t=2^(n-1)) (h1:r<t) (h2:1≤r):2≤n∧t/2^1=2^(n-1-1):=by
  have hn:2≤n:=Classical.byContradiction fun hn=>by
    grind
  refine⟨hn,?_⟩;obtain⟨m,rfl⟩:∃m,n=m+2:=⟨n-2,Om⟩;grind
theorem OQ {n:Nat} (h:1≤n):2^n=2*2^(n-1):=by
  obtain⟨m,rfl⟩:∃m,n=m+1:=⟨n-1,Om⟩;grind
theorem xU (w x c:Nat) (h:w=x/2^c):w/2^2=x/2^(c+2):=by rw[h,Nat.div_div_eq_div_mul, ←Nat.pow_add]
theorem xV {w x c:Nat} (h:w=x/2^c) (hx:x<4294967296):w<4294967296:=by
  have:=Nat.div_le_self x (2^c);omega
theorem wD.congr {dt:List Nat} {L:Nat} {cd cd':Nat→Nat × Nat} {S S':Nat→Prop} (h:wD dt L cd S) (h1:∀c,S' c→S c∧cd c=cd' c):wD dt L cd' S':=
  ⟨h.L1,h.L16,fun c hc=>by rw[←(h1 c hc).2];exact h.one c (h1 c hc).1,fun c hc v hv he=>by rw[←(h1 c hc).2] at he ⊢;exact h.at_ c (h1 c hc).1 v hv he⟩
def Has (ls:List Nat) (c:Nat):Prop:=1≤ls.getD c 0
theorem OR {ls r dt:List Nat} {L last:Nat} (h:HW ls L last) (hw:gL ls) (he:ib ls) (hr:r.length=16) (ie:∀w,0<w→w≤L→r.getD w 0=startW (kQ ls L last) w) (hdt:dt.length=2048):
    wD (fillT L 0 (kQ ls L last) r dt) L (lH ls) (Has ls)∧(fillT L 0 (kQ ls L last) r dt).length=2048:=by
  have hL:=h.L11 hw;have hlen:=vR h;have hl:=h.lt;have DK:=hw.1;obtain⟨h1,h2⟩:=xR (ws:=kQ ls L last) (r:=r) (dt:=dt) h.L1 hL Om BB hr ie (by rw[lu _ BB];exact pg h hw hL) hdt;refine⟨h1.congr fun c hc=>?_,h2⟩;obtain⟨h3,h4⟩:=Xk h hL he hc;refine⟨⟨Om,?_⟩,h3⟩;have h5:=h.J1 c;have h6:1≤ls.getD c 0:=hc;grind [DX,u6]
theorem aJ.ofBits {xs dt ls t:List Nat} {k len L tt:Nat} (hT:wD dt L (lH ls) (Has ls)) (hb:Bytes xs) (ht:4≤tt) (ha:∀c ∈ t,Has ls c) (hl:len=tN (lH ls) t/8+1) (hv:tailV xs k len=2^tN (lH ls) t+bitsV (codeBits ls t)):
    aJ xs k len (lH ls) (Has ls) (BR.init tt xs k len) t∧0<xs.getD (k+(len-1)) 0:=by
  have h1:=o9 ls t fun c hc=>(hT.one c (ha c hc)).2.2.2
  rw[h1] at hv;obtain⟨h2,h3⟩:=Pos.tk (t:=tt) hb ht hl (JT hT t ha) hv;exact⟨⟨h2,ha⟩,h3⟩
theorem rZ {a b:List Nat} {i:Nat} (h:a.length≤i):(a++b).getD i 0=b.getD (i-a.length) 0:=by
  grind
theorem GK {a b:List Nat} {i:Nat} (h:i<a.length):(a++b).getD i 0=a.getD i 0:=by
  grind
theorem qF {xs a y b:List Nat} {k n:Nat} (h:xs=a++(y++b)) (hk:k=a.length) (hn:n≤y.length):tailV xs k n=tailV y 0 n:=by
  grind [iS,rZ,GK]
theorem OS {t:List Nat} {q j:Nat} (h:(j+1)*q≤t.length):vQ t q j=sub t (q*j) q:=by
  grind [vQ,sub]
theorem Ly {t:List Nat} {q m:Nat} (h:t.length=3*q+m) (hm:m≤q):vQ t q 3=sub t (q*3) m:=by
  grind [vQ,sub]
theorem Au {Y:List (List Nat)} (h:Y.length=4):Y=[Y.getD 0 [],Y.getD 1 [],Y.getD 2 [],Y.getD 3 []]:=by
  match Y,h with
  |[a,b,c,d],_=>rfl
structure GM (xs t ls:List Nat) (ev m3 bQ cc cl cW:Nat):Prop where
  len:xs.length=6+bQ+cc+cl+cW
  one:1≤bQ∧1≤cc∧1≤cl∧1≤cW
  j0:xs.getD 0 0=bQ%256∧xs.getD 1 0=bQ/256
  j1:xs.getD 2 0=cc%256∧xs.getD 3 0=cc/256
  j2:xs.getD 4 0=cl%256∧xs.getD 5 0=cl/256
  s0:bQ=tN (lH ls) (sub t (ev*0) ev)/8+1∧tailV xs 6 bQ=2^tN (lH ls) (sub t (ev*0) ev)+bitsV (codeBits ls (sub t (ev*0) ev))∧∀c ∈ sub t (ev*0) ev,Has ls c
  s1:cc=tN (lH ls) (sub t (ev*1) ev)/8+1∧tailV xs (6+bQ) cc=2^tN (lH ls) (sub t (ev*1) ev)+bitsV (codeBits ls (sub t (ev*1) ev))∧∀c ∈ sub t (ev*1) ev,Has ls c
  s2:cl=tN (lH ls) (sub t (ev*2) ev)/8+1∧tailV xs (6+bQ+cc) cl=2^tN (lH ls) (sub t (ev*2) ev)+bitsV (codeBits ls (sub t (ev*2) ev))∧∀c ∈ sub t (ev*2) ev,Has ls c
  s3:cW=tN (lH ls) (sub t (ev*3) m3)/8+1∧tailV xs (6+bQ+cc+cl) cW=2^tN (lH ls) (sub t (ev*3) m3)+bitsV (codeBits ls (sub t (ev*3) m3))∧∀c ∈ sub t (ev*3) m3,Has ls c
  bytes:Bytes xs
theorem GM.of {xs t ls:List Nat} {ev m3:Nat} {Y:List (List Nat)} (hY:Y.length=4) (hp:∀j,j<4→Gy ls (vQ t ev j) (Y.getD j [])) (hx:xs=mD (Y.take 3)++Y.flatten) (ht:t.length=3*ev+m3) (hm:m3≤ev):∃bQ cc cl cW,GM xs t ls ev m3 bQ cc cl cW:=by
  have e:=Au hY;have p0:=hp 0 Om;have p1:=hp 1 Om;have p2:=hp 2 Om;have p3:=hp 3 Om;generalize Y.getD 0 []=y0 at e p0;generalize Y.getD 1 []=y1 at e p1;generalize Y.getD 2 []=y2 at e p2;generalize Y.getD 3 []=y3 at e p3;subst e;rw[OS Om] at p0 p1 p2;rw[Ly ht hm] at p3;have hh:mD ([y0,y1,y2,y3].take 3)=[y0.length%256,y0.length/2^8,y1.length%256,y1.length/2^8,y2.length%256,y2.length/2^8]:=rfl;have hf:[y0,y1,y2,y3].flatten=y0++(y1++(y2++y3)):=Oi;rw[hh,hf] at hx;have l0:=p0.len;have l1:=p1.len;have l2:=p2.len;have l3:=p3.len
  have has:∀{t ys:List Nat},Gy ls t ys→∀c ∈ t,Has ls c:=fun h c hc=>(h.all c hc).2.1
  refine⟨y0.length,y1.length,y2.length,y3.length,?_⟩;refine⟨?_,⟨Om,Om,Om,Om⟩,?_,?_,?_,⟨l0.1,?_,has p0⟩,⟨l1.1,?_,has p1⟩,⟨l2.1,?_,has p2⟩,⟨l3.1,?_,has p3⟩,?_⟩
  · grind
  · grind
  · grind
  · simp_all
  · rw[qF (k:=6) (n:=y0.length) hx rfl (Nat.le_refl _),l0.1,p0.num]
  · rw[qF (n:=y1.length) (xs:=xs) (a:=[y0.length%256,y0.length/2^8,y1.length%256,y1.length/2^8,y2.length%256,y2.length/2^8]++y0) (b:=y2++y3) (by rw[hx];simp) Oz (Nat.le_refl _),l1.1,p1.num]
  · rw[qF (n:=y2.length) (xs:=xs) (a:=[y0.length%256,y0.length/2^8,y1.length%256,y1.length/2^8,y2.length%256,y2.length/2^8]++y0++y1) (b:=y3) (by rw[hx];simp) Oz (Nat.le_refl _),l2.1,p2.num]
  · rw[qF (n:=y3.length) (xs:=xs) (a:=[y0.length%256,y0.length/2^8,y1.length%256,y1.length/2^8,y2.length%256,y2.length/2^8]++y0++y1++y2) (b:=[]) (by rw[hx];simp) Oz (Nat.le_refl _),l3.1,p3.num]
  · rw[hx];intro x hx';simp only[List.mem_append] at hx';rcases hx' with h|h|h|h|h
    · (simp_all;omega)
    · exact p0.bytes x h
    · exact p1.bytes x h
    · exact p2.bytes x h
    · exact p3.bytes x h
inductive cG:Nat→List Int→List Nat→Prop
  |done:cG 0 [] []
  |num (left:Nat) (n:Int) (cs:List Int) (bits:List Nat):n≠0→ -1≤n→n.natAbs≤left→cG (left-n.natAbs) cs bits→cG left (n::cs) (im (left+1) (n+1).toNat++bits)
  |zer (left z:Nat) (c:Int) (cs:List Int) (bits:List Nat):0<left→c≠0→cG left (c::cs) bits→cG left (0::(List.replicate z 0++c::cs)) (im (left+1) 1++(zerosB z++bits))
theorem cG.bits {l:Nat} {cs:List Int} {E:List Nat} (h:cG l cs E):oA E:=by
  induction h with
  |done=>exact fun x hx=>by cases hx
  |num l n cs b h0 h1 hl hd ih=>exact oA.app (qy _ _) ih
  |zer l z c cs b h0 hc hd ih=>exact oA.app (qy _ _) (oA.app (lM _) ih)
theorem cG.inv {left:Nat} {cs:List Int} {E:List Nat} (h:cG left cs E) (h0:0<left):∃n t b,E=im (left+1) (n+1).toNat++b∧cs=n::t∧ -1≤n∧n.natAbs≤left∧
    ((n≠0∧cG (left-n.natAbs) t b)∨(n=0∧∃z c t2 b2,b=zerosB z++b2∧t=List.replicate z 0++c::t2∧cG left (c::t2) b2)):=by
  cases h with
  |done=>omega
  |num l n t b h1 h2 h3 h4=>exact⟨n,t,b,rfl,rfl,h2,h3,.inl ⟨h1,h4⟩⟩
  |zer l z c t b h1 h2 h3=>exact⟨0,_,_,rfl,rfl,Om,Oi,.inr ⟨rfl,z,c,t,b,rfl,rfl,h3⟩⟩
theorem cG.acp {cs:List Int} {E:List Nat} {left:Nat} (h:cG left cs E) (h0:left=0):E=[]∧cs=[]:=by
  cases h with
  |done=>exact⟨rfl,rfl⟩
  |num l n t b h1 h2 h3 h4=>omega
  |zer l z c t b h1 h2 h3=>omega
theorem cG.acq {l:Nat} {cs:List Int} {E:List Nat} (h:cG l cs E):l<128→E.length≤10*cs.length:=by
  induction h with
  |done=>intro _;simp
  |num l n cs b h0 h1 hl hd ih=>
    intro h9;have h8:=(ll (dk:=l+1) (v:=(n+1).toNat)).2;have h7:aq (l+1)≤8:=cS Om;grind
  |zer l z c cs b h0 hc hd ih=>
    intro h9;have h8:=(ll (dk:=l+1) (v:=1)).2;have h7:aq (l+1)≤8:=cS Om;grind [qC]
def D3 (S:Nat) (cs:List Int) (pz:Bool) (left i:Nat) (E:List Nat):Prop:=
  (pz=false∧∀rest,cG left (cs.drop i) rest→cG S cs (E++rest))∨(pz=true∧∀z c t b,cs.drop i=List.replicate z 0++c::t→c≠0→cG left (c::t) b→cG S cs (E++(zerosB z++b)))
theorem D3.begin (S:Nat) (cs:List Int):D3 S cs false S 0 []:=.inl ⟨rfl,fun rest h=>by simpa using h⟩
theorem qG {xs:List Int} {i:Nat} (h:i<xs.length):xs.drop i=xs.getD i 0::xs.drop (i+1):=by rw[List.drop_eq_getElem_cons h];simp[h]
theorem vU {xs:List Int} {i:Nat}:∀z,(∀j,j<z→xs.getD (i+j) 0=0)→i+z≤xs.length→xs.drop i=List.replicate z 0++xs.drop (i+z)
  |0,_,_=>by simp
  |z+1,h,hl=>by
    rw[vU z (fun j hj=>h j Om) Om,qG (i:=i+z) Om,h z Om,List.replicate_succ',List.append_assoc]
    rfl
theorem D3.num {S left i:Nat} {cs:List Int} {E:List Nat} {n:Int} (h:D3 S cs false left i E) (hi:i<cs.length) (hn:cs.getD i 0=n) (h0:n≠0) (h1: -1≤n) (hl:n.natAbs≤left):D3 S cs false (left-n.natAbs) (i+1) (E++im (left+1) (n+1).toNat):=by
  rcases h with ⟨_,h⟩|⟨h,_⟩
  · refine .inl ⟨rfl,fun rest hr=>?_⟩;rw[List.append_assoc];refine h _ ?_;rw[qG hi,hn];exact cG.num left n _ rest h0 h1 hl hr
  · cases h
theorem D3.zero {S left i:Nat} {cs:List Int} {E:List Nat} (h:D3 S cs false left i E) (hi:i<cs.length) (hn:cs.getD i 0=0) (h0:0<left):D3 S cs true left (i+1) (E++im (left+1) 1):=by
  rcases h with ⟨_,h⟩|⟨h,_⟩
  · refine .inr ⟨rfl,fun z c t b e hc hr=>?_⟩;rw[List.append_assoc];refine h _ ?_;rw[qG hi,hn,e];exact cG.zer left z c t b h0 hc hr
  · cases h
theorem D3.run {S left i z:Nat} {cs:List Int} {E:List Nat} (h:D3 S cs true left i E) (hi:i+z<cs.length) (hz:∀j,j<z→cs.getD (i+j) 0=0) (hc:cs.getD (i+z) 0≠0):D3 S cs false left (i+z) (E++zerosB z):=by
  rcases h with ⟨h,_⟩|⟨_,h⟩
  · cases h
  · refine .inl ⟨rfl,fun rest hr=>?_⟩;rw[List.append_assoc];have e:=vU z hz Om;grind [qG]
theorem D3.done {S:Nat} {cs:List Int} {pz:Bool} {i:Nat} {E:List Nat} (h:D3 S cs pz 0 i E) (hp:pz=false) (hi:i=cs.length):cG S cs E:=by
  rcases h with ⟨_,h⟩|⟨h1,_⟩
  · have:=h [] (by rw[hi,List.drop_length];exact cG.done);grind
  · grind
def BD (L:Nat) (pz:Bool) (rem cn len:Nat):Prop:=len+(if 2^L≤rem then 1 else 0)+(if pz=true then 1 else 0)≤5+(L+1)*cn
theorem Av {L rem v:Nat} (hL:L=5∨L=6) (h1:1≤rem) (h2:rem≤2^L+1) (hv:v≤rem):(im rem v).length≤L+1∧(rem<2^L→(im rem v).length≤L)∧(v≤2→(im rem v).length≤L):=by
  have h3:=(ll (dk:=rem) (v:=v)).2;have hz:2^(L+1)=2*2^L:=by rw[Nat.pow_succ,Nat.mul_comm]
  have h4:aq rem≤L+1:=cS (by rcases hL with rfl|rfl<;>omega);grind [aq,cS,qE,im,bD]
theorem BD.num {L rem cn len n:Nat} (h:len+(if 2^L≤rem then 1 else 0)≤5+(L+1)*cn+1) (hL:L=5∨L=6) (hr:rem≤2^L+1) (h1:1≤rem) (hn:1≤n) (F7:n+1≤rem) {v:Nat} (hv:v≤n+1):BD L false (rem-n) (cn+1) (len+(im rem v).length):=by
  obtain⟨c1,c2,c3⟩:=Av (v:=v) hL h1 hr Om;grind [BD]
theorem BD.zero {L rem cn len:Nat} (h:BD L false rem cn len) (hL:L=5∨L=6) (hr:rem≤2^L+1) (h1:1≤rem):BD L true rem (cn+1) (len+(im rem 1).length):=by
  obtain⟨c1,c2,c3⟩:=Av (v:=1) hL h1 hr h1;grind [BD]
theorem BD.run {L rem cn len:Nat} (h:BD L true rem cn len) (z:Nat):len+(zerosB z).length+(if 2^L≤rem then 1 else 0)≤5+(L+1)*(cn+z)+1:=by
  unfold BD at h;grind [qC]
theorem BD.sQ {L rem cn len:Nat} (h:BD L false rem cn len):len+(if 2^L≤rem then 1 else 0)≤5+(L+1)*cn+1:=by
  grind [BD]
structure iL (log:Nat) (T:List Cell) (text ys:List Nat):Prop where
  ex:∃A,lk log T text A∧(∀i,i<text.length→text.length≤i+2→1≤(T.getD (A.getD i 0) (0,0,0)).2.1)∧Bytes ys∧ys.length=(2*log+fN T A)/8+1∧tailV ys 0 ((2*log+fN T A)/8+1)=2^(2*log+fN T A)+((A.getD 0 0*2^log+A.getD 1 0)*2^fN T A+fR T A)
structure fM (log:Nat) (cs:List Int) (text ys:List Nat):Prop where
  cB:bx log cs
  ex:∃E H B,ys=H++B∧cG (2^log) cs E∧Bytes H∧H.length=(4+E.length+7)/8∧tailV H 0 ((4+E.length+7)/8)=lowV (eA (log-5) 4++E)∧iL log (eE log cs) text B
theorem Aw {log:Nat} {T:List Cell} {text A:List Nat} (hF:lk log T text A):(A.getD 0 0*2^log+A.getD 1 0)*2^fN T A+fR T A<2^(2*log+fN T A):=by
  have h1:fR T A<2^fN T A:=by have:=lk.lt_ hF _ 0 rfl;rwa [List.drop_zero] at this
  have h0:0<2^log:=Nat.two_pow_pos _;have aj6:∀i,A.getD i 0<2^log:=fun i=>by
    rcases Nat.lt_or_ge i A.length with hi|hi
    · exact hF.lt _ (by simp[List.getD_eq_getElem?_getD,hi])
    · grind
  have ha:=aj6 0;have hb:=aj6 1;generalize A.getD 0 0=a at*;generalize A.getD 1 0=b at*;have e:2^(2*log+fN T A)=(2^log*2^log)*2^fN T A:=by rw[Nat.pow_add,Nat.two_mul,Nat.pow_add]
  have h3:(a+1)*2^log≤2^log*2^log:=Nat.mul_le_mul_right _ ha;have h2:(a*2^log+b+1)*2^fN T A≤(2^log*2^log)*2^fN T A:=Nat.mul_le_mul_right _ (by rw[Nat.add_mul,Nat.one_mul] at h3;omega);grind
theorem iL.last {log:Nat} {T:List Cell} {text ys:List Nat} (h:iL log T text ys):0<ys.length∧ys.getD (ys.length-1) 0≠0∧Bytes ys:=by
  obtain⟨A,h1,_,h2,h3,h4⟩:=h.ex;have:=(Pos.tk (k:=0) (t:=4) h2 Om rfl (Aw h1) h4).2;grind
theorem fM.bytes {log:Nat} {cs:List Int} {ws b:List Nat} (h:fM log cs ws b):Bytes b:=by
  obtain⟨E,H,B,e,h1,h2,h3,h4,h5⟩:=h.ex;have hB:=h5.last.2.2;exact e▸fun x hx=>(List.mem_append.1 hx).elim (h2 x) (hB x)
theorem fM.read {log:Nat} {cs:List Int} {ws b:List Nat} (h:fM log cs ws b):∃E,cG (2^log) cs E∧Aj b b.length 0 (eA (log-5) 4++E)∧0<(b.drop ((4+E.length+7)/8)).length∧(b.drop ((4+E.length+7)/8)).getD ((b.drop ((4+E.length+7)/8)).length-1) 0≠0∧iL log (eE log cs) ws (b.drop ((4+E.length+7)/8)):=by
  have VQ:=h.bytes;obtain⟨E,H,B,e,h1,h2,h3,h4,h5⟩:=h.ex;have hB:=h5.last;have e2:b.drop ((4+E.length+7)/8)=B:=by rw[e, ←h3,List.drop_append_of_le_length (Nat.le_refl _),List.drop_length,List.nil_append]
  refine⟨E,h1,?_,by rw[e2];exact hB.1,by rw[e2];exact hB.2.1,by rw[e2];exact h5⟩;have hle:(eA (log-5) 4++E).length=4+E.length:=by rw[List.length_append,bD]
  have MG:b.length=H.length+B.length:=by rw[e,List.length_append]
  refine Aj.ace (by rw[hle,MG,h3];omega) ?_;have e1:=uZ VQ 0 (m:=H.length) (n:=b.length) Om;have e3:tailV b 0 H.length=tailV H 0 H.length:=iS _ fun i hi=>by rw[e];simp[List.getD_eq_getElem?_getD,List.getElem?_append_left hi]
  rw[e3,h3,h4] at e1;have h6:oA (eA (log-5) 4++E):=oA.app (j4 _ 4) h1.bits;have hd:2^(eA (log-5) 4++E).length∣2^(8*((4+E.length+7)/8)):=Nat.pow_dvd_pow 2 (by rw[hle];omega);rw[←Nat.mod_mod_of_dvd _ hd,e1,Nat.mod_eq_of_lt (wT h6)]
def eH {α:Type} (size m:Nat) (all:Nat→α) (G:Nat→α) (k j:Nat):Prop:=∀i,(i<k∨(size-m≤i∧i<size-m+j))→G ((j7 size m).getD i 0)=all i
section
variable {α:Type} {size m k j:Nat} {all G G':Nat→α}
theorem eH.zero:eH size m all G 0 0:=fun i h=>by omega
theorem eH.low (h:eH size m all G 0 j) (hs:pe size m) (hj:j<m) (e:G' (size-1-j)=all (size-m+j)) (o:∀u,u≠size-1-j→G' u=G u):eH size m all G' 0 (j+1):=fun i hi=>by
  have hle:=hs.le;have hb:=hs.back hj;by_cases ei:i=size-m+j
  · grind
  · rw[o _ fun he=>ei (hs.inj Om Om (he.trans hb.symm))];exact h i Om
theorem eH.flat (h:eH size m all G k m) (hs:pe size m) (hk:k<size-m) {p:Nat} (hp:p=(nF size m).getD k 0) (e:G' p=all k) (o:∀u,u≠p→G' u=G u):eH size m all G' (k+1) m:=fun i hi=>by
  have hle:=hs.le;rw[←hs.seq hk] at hp;by_cases ei:i=k
  · grind
  · rw[o _ fun he=>ei (hs.inj Om Om (he.trans hp))];exact h i Om
theorem eH.done (h:eH size m all G (size-m) m) (hs:pe size m) {u:Nat} (hu:u<size):G u=all ((j7 size m).idxOf u):=by
  obtain⟨h1,h2⟩:=hs.met hu;have hle:=hs.le;have:=h ((j7 size m).idxOf u) Om;grind
end
def wG (size m k:Nat):Nat:=(nF size m).getD (k%(size-m)) 0
section
variable {size m k:Nat}
theorem OT (h:pe size m):wG size m 0=0:=by unfold wG;rw[Nat.zero_mod];exact h.first
theorem OU (h:pe size m):wG size m (size-m)=0:=by unfold wG;rw[Nat.mod_self];exact h.first
theorem acr (h:pe size m) (k:Nat):wG size m k+m<size:=by
  have hle:=h.le;grind [wG,nF]
theorem OV (h:pe size m) (k:Nat):goM size m size ((wG size m k+fS size)%size)=wG size m (k+1):=by
  have hle:=h.le;unfold wG;rw[aj3 h (Nat.mod_lt _ Om),Nat.mod_add_mod]
theorem Xn (h:pe size m) (hk:k<size-m):wG size m k=(nF size m).getD k 0:=by unfold wG;rw[Nat.mod_eq_of_lt hk]
end
def kR (cs:List Int) (s:Nat):Nat:=((cs.map fun n=>(-n).toNat).take s).sum
def dR (cs:List Int) (s:Nat):Nat:=((cs.map Int.toNat).take s).sum
theorem xW:∀(xs:List Nat) (b s k:Nat),k<xs.getD s 0→(flatC b xs).getD ((xs.take s).sum+k) 0=b+s
  |[],b,s,k,h=>by simp at h
  |n::xs,b,0,k,h=>by
    grind [flatC]
  |n::xs,b,s+1,k,h=>by
    have hk:k<xs.getD s 0:=by simpa using h
    have ih:=xW xs (b+1) s k hk;grind [flatC]
theorem xX {xs:List Nat} {s:Nat}:(xs.take (s+1)).sum=(xs.take s).sum+xs.getD s 0:=eh
section
variable {cs:List Int} {s:Nat}
theorem fh:kR cs (s+1)=kR cs s+(-(cs.getD s 0)).toNat:=by
  grind [kR,xX,iU]
theorem gN:dR cs (s+1)=dR cs s+(cs.getD s 0).toNat:=by
  grind [dR,xX,iU]
theorem Ax:kR cs 0=0:=rfl
theorem mI (h:cs.length≤s):kR cs s=(bl cs).length:=by unfold kR;rw[List.take_of_length_le (by simpa using h),kO]
theorem Ay (h:cs.length≤s):dR cs s=(n8 cs).length:=by unfold dR;rw[List.take_of_length_le (by simpa using h),nG]
theorem qH:kR cs s≤(bl cs).length:=by unfold kR;rw[kO];exact pd _ _
theorem D4:dR cs s≤(n8 cs).length:=by unfold dR;rw[nG];exact pd _ _
end
def mJ (cs:List Int):List Nat:=n8 cs++bl cs
theorem LA {cs:List Int} {s k:Nat} (h:k<(cs.getD s 0).toNat):(mJ cs).getD (dR cs s+k) 0=s:=by
  have h1:=xW (cs.map Int.toNat) 0 s k (by rw[iU rfl];exact h);have h2:dR cs s+k<(n8 cs).length:=by
    have:=D4 (cs:=cs) (s:=s+1);grind [gN]
  grind [mJ,dR,n8]
theorem OW {cs:List Int} {s:Nat} (h:cs.getD s 0= -1):(mJ cs).getD ((n8 cs).length+kR cs s) 0=s:=by
  have h1:=xW (cs.map fun n=>(-n).toNat) 0 s 0 (by rw[iU rfl,h];decide);grind [mJ,n8,kR,bl]
section
variable {log:Nat} {cs:List Int}
theorem GN {u:Nat} (hu:u<2^log):(cY log cs).getD u 0=(mJ cs).getD ((j7 (2^log) (bl cs).length).idxOf u) 0:=by
  unfold cY;rw[GF hu];rfl
theorem Xo (h:bx log cs) {s:Nat} (hs:cs.getD s 0= -1):kR cs s<(bl cs).length:=by
  have:=qH (cs:=cs) (s:=s+1);grind [fh]
theorem bx.at_ (h:bx log cs) (s:Nat): -1≤cs.getD s 0∧cs.getD s 0<2^log:=by
  rcases Nat.lt_or_ge s cs.length with hs|hs
  · have hm:cs.getD s 0 ∈ cs:=by simp[List.getD_eq_getElem?_getD,hs]
    exact⟨h.ge _ hm,h.lt _ hm⟩
  · rw[List.getD_eq_getElem?_getD,List.getElem?_eq_none hs];have:(0:Int)<2^log:=by exact_mod_cast Nat.two_pow_pos log
    grind
theorem LB (h:bx log cs) {u:Nat} (hu:u<2^log):(cY log cs).getD u 0<cs.length:=by
  grind [nH]
end
def sm (W:Nat→Nat):Nat→Nat
  |0=>0
  |n+1=>sm W n+W n
theorem bB {W W':Nat→Nat}:∀{n:Nat},(∀i,i<n→W i=W' i)→sm W n=sm W' n
  |0,_=>rfl
  |n+1,h=>by simp only[sm];rw[bB fun i hi=>h i Om,h n Om]
structure Tr (N:Nat) (C:Nat→Nat) (m p u c S B0 B:Nat) (CI PL PI:Nat→Nat):Prop where
  num:N-u+c=2*m+p∧u≤N∧c≤m∧p≤2
  mK:∀i j,i≤j→j<N→C j≤C i
  pl:∀i,u≤i→i<N→PL i≤m∧(p=0→PL i<m)
  pi:∀a,a<c→a<PI a∧PI a≤m∧(p=0→PI a<m)
  ml:∀i j,u≤i→i≤j→j<N→PL j≤PL i
  mi:∀a b,a≤b→b<c→PI a≤PI b
  w:∀W V:Nat→Nat,(∀i,u≤i→i<N→2*W i=V (PL i))→(∀a,a<c→2*V a=V (PI a))→2*(sm W N+sm V c)=2*(sm W u+sm V m)+p*V m
  bb:B0≤B
  c1:∀i,u≤i→i<N→C i≤B∧(PL i<m→C i≤B0)∧(PL i=m→C i≤S)
  c2:∀a,a<c→CI a≤B∧(PI a<m→CI a≤B0)∧(PI a=m→CI a≤S)
  c3:∀i,i<u→B≤C i
  c4:∀a,c≤a→a<m→B≤CI a
  cs:p*B0≤S∧S≤p*B∧(0<p→B≤S)
  cm:∀a b,a≤b→b<m→CI a≤CI b
  ti:∀a,a<m→CI a≤2*B0
  g1:∀i,u≤i→i<N→PL i<c→PI (PL i)<m→2*C i≤CI (PI (PL i))
  g2:∀a,a<c→PI a<c→PI (PI a)<m→2*CI a≤CI (PI (PI a))
  q1:∀i,u≤i→i<N→PL i<m→C i≤CI (PL i)
  q2:∀a,a<c→PI a<m→CI a≤CI (PI a)
  iZ:sm C u+sm CI m+S=sm C N+sm CI c
theorem Tr.begin {N:Nat} {C:Nat→Nat} (hs:∀i j,i≤j→j<N→C j≤C i) (CI PL PI:Nat→Nat):Tr N C 0 0 N 0 0 0 0 CI PL PI where
  num:=Om
  mK:=hs
  pl:=fun i h1 h2=>by omega
  pi:=fun a h=>by omega
  ml:=fun i j h1 h2 h3=>by omega
  mi:=fun a b h1 h2=>by omega
  w:=fun W V _ _=>by simp[sm]
  bb:=Nat.le_refl _
  c1:=fun i h1 h2=>by omega
  c2:=fun a h=>by omega
  c3:=fun i h=>Nat.zero_le _
  c4:=fun a h1 h2=>by omega
  cs:=Om
  cm:=fun a b h1 h2=>by omega
  ti:=fun a h=>by omega
  g1:=fun i h1 h2=>by omega
  g2:=fun a h=>by omega
  q1:=fun i h1 h2=>by omega
  q2:=fun a h=>by omega
  iZ:=by simp[sm]
section
variable {N:Nat} {C:Nat→Nat} {m p u c S B0 B:Nat} {CI PL PI:Nat→Nat}
theorem Tr.leaf (h:Tr N C m p u c S B0 B CI PL PI) (hp:p≤1) (hu:0<u) (hc:c=m∨C (u-1)≤CI c):
    Tr N C m (p+1) (u-1) c (S+C (u-1)) B0 (C (u-1)) CI (fun i=>if i=u-1 then m else PL i) PI:=by
  have hn:=h.num;have hB:=h.c3 (u-1) Om;have hav:∀a,c≤a→a<m→C (u-1)≤CI a:=fun a h1 h2=>by
    rcases hc with hc|hc
    · omega
    · exact Nat.le_trans hc (h.cm c a h1 h2)
  have zu:=h.cs;have VQ:=h.bb;have MH:∀i,u-1≤i→i<N→i≠u-1→u≤i:=fun i h1 h2 h3=>by omega
  constructor
  · omega
  · exact h.mK
  · intro i h1 h2;by_cases e:i=u-1
    · simp[e]
    · have:=h.pl i (MH i h1 h2 e) h2;simp only[if_neg e];exact⟨this.1,fun hz=>Om⟩
  · intro a ha;have:=h.pi a ha;exact⟨this.1,this.2.1,fun hz=>Om⟩
  · intro i j h1 h2 h3;by_cases e:i=u-1
    · by_cases e2:j=u-1
      · simp[e,e2]
      · simp only[if_neg e2,if_pos e];exact(h.pl j Om h3).1
    · simp only[if_neg e,if_neg (show j≠u-1 by omega)];exact h.ml i j Om h2 h3
  · exact h.mi
  · intro W V hW hV;have h1:=h.w W V (fun i hi1 LC=>by have:=hW i Om LC;rwa [if_neg Om] at this) hV;have h2:=hW (u-1) (Nat.le_refl _) Om;simp only[if_true] at h2;have h3:sm W u=sm W (u-1)+W (u-1):=by rw[show u=(u-1)+1 by omega];rfl
    grind
  · omega
  · intro i h1 h2;by_cases e:i=u-1
    · grind
    · have:=h.c1 i (MH i h1 h2 e) h2;simp only[if_neg e];exact⟨Om,this.2.1,fun hz=>by have:=this.2.2 hz;omega⟩
  · intro a ha;have:=h.c2 a ha;exact⟨Om,this.2.1,fun hz=>by have:=this.2.2 hz;omega⟩
  · intro i hi;exact h.mK i (u-1) Om Om
  · exact hav
  · grind
  · exact h.cm
  · exact h.ti
  · intro i h1 h2 h3 h4;by_cases e:i=u-1
    · grind
    · simp only[if_neg e] at h3 h4 ⊢;exact h.g1 i (MH i h1 h2 e) h2 h3 h4
  · exact h.g2
  · intro i h1 h2 h3;by_cases e:i=u-1
    · grind
    · simp only[if_neg e] at h3 ⊢;exact h.q1 i (MH i h1 h2 e) h2 h3
  · exact h.q2
  · have h3:sm C u=sm C (u-1)+C (u-1):=by rw[show u=(u-1)+1 by omega];rfl
    have:=h.iZ;omega
theorem Tr.inner (h:Tr N C m p u c S B0 B CI PL PI) (hp:p≤1) (uE:c<m) (hc:u=0∨CI c≤C (u-1)):
    Tr N C m (p+1) u (c+1) (S+CI c) B0 (CI c) CI PL (fun a=>if a=c then m else PI a):=by
  have hn:=h.num;have hB:=h.c4 c (Nat.le_refl _) uE;have hav:∀i,i<u→CI c≤C i:=fun i hi=>by
    rcases hc with hc|hc
    · omega
    · exact Nat.le_trans hc (h.mK i (u-1) Om Om)
  have zu:=h.cs;have VQ:=h.bb;constructor
  · omega
  · exact h.mK
  · intro i h1 h2;have:=h.pl i h1 h2;exact⟨this.1,fun hz=>Om⟩
  · intro a ha;by_cases e:a=c
    · grind
    · have:=h.pi a Om;simp only[if_neg e];exact⟨this.1,this.2.1,fun hz=>Om⟩
  · exact h.ml
  · intro a b h1 h2;by_cases e:b=c
    · by_cases e2:a=c
      · simp[e,e2]
      · simp only[if_neg e2,if_pos e];exact(h.pi a Om).2.1
    · simp only[if_neg e,if_neg (show a≠c by omega)];exact h.mi a b h1 Om
  · intro W V hW hV;have h1:=h.w W V hW (fun a ha=>by have:=hV a Om;rwa [if_neg Om] at this);grind [sm]
  · omega
  · intro i h1 h2;have:=h.c1 i h1 h2;exact⟨Om,this.2.1,fun hz=>by have:=this.2.2 hz;omega⟩
  · intro a ha;by_cases e:a=c
    · grind
    · have:=h.c2 a Om;simp only[if_neg e];exact⟨Om,this.2.1,fun hz=>by have:=this.2.2 hz;omega⟩
  · exact hav
  · intro a h1 h2;exact h.cm c a Om h2
  · grind
  · exact h.cm
  · exact h.ti
  · intro i h1 h2 h3 h4;by_cases e:PL i=c
    · grind
    · simp only[if_neg e] at h4 ⊢;exact h.g1 i h1 h2 Om h4
  · intro a h1 h2 h3;by_cases e:a=c
    · grind
    · simp only[if_neg e] at h2 h3 ⊢;by_cases e2:PI a=c
      · grind
      · simp only[if_neg e2] at h3 ⊢;exact h.g2 a Om Om h3
  · exact h.q1
  · intro a h1 h2;by_cases e:a=c
    · grind
    · simp only[if_neg e] at h2 ⊢;exact h.q2 a Om h2
  · have h3:sm CI (c+1)=sm CI c+CI c:=rfl;have:=h.iZ;omega
theorem Tr.node (h:Tr N C m 2 u c S B0 B CI PL PI):Tr N C (m+1) 0 u c 0 B B (fun a=>if a=m then S else CI a) PL PI:=by
  have hn:=h.num;have zu:=h.cs;have VQ:=h.bb;have hti:∀a,a<m→CI a≤S:=fun a ha=>by have:=h.ti a ha;omega
  constructor
  · omega
  · exact h.mK
  · intro i h1 h2;have:=h.pl i h1 h2;exact⟨Om,fun _=>Om⟩
  · intro a ha;have:=h.pi a ha;exact⟨this.1,Om,fun _=>Om⟩
  · exact h.ml
  · exact h.mi
  · intro W V hW hV;have:=h.w W V hW hV;grind [sm]
  · omega
  · intro i h1 h2;have:=h.c1 i h1 h2;have:=h.pl i h1 h2;exact⟨Om,fun _=>Om,fun hz=>Om⟩
  · intro a ha;have:=h.c2 a ha;have:=h.pi a ha;simp only[if_neg (show a≠m by omega)];exact⟨Om,fun _=>Om,fun hz=>Om⟩
  · exact h.c3
  · intro a h1 h2;by_cases e:a=m
    · grind
    · simp only[if_neg e];exact h.c4 a h1 Om
  · omega
  · intro a b h1 h2;by_cases e:b=m
    · grind
    · simp only[if_neg e,if_neg (show a≠m by omega)];exact h.cm a b h1 Om
  · grind
  · intro i h1 h2 h3 h4;have hp:=h.pl i h1 h2;have ld:=h.c1 i h1 h2;by_cases e:PI (PL i)=m
    · grind
    · simp only[if_neg e];exact h.g1 i h1 h2 h3 Om
  · intro a h1 h2 h3;have Gf:=h.c2 a h1;simp only[if_neg (show a≠m by omega)];by_cases e:PI (PI a)=m
    · grind
    · simp only[if_neg e];exact h.g2 a h1 h2 Om
  · intro i h1 h2 h3;by_cases e:PL i=m
    · simp only[if_pos e];exact(h.c1 i h1 h2).2.2 e
    · simp only[if_neg e];exact h.q1 i h1 h2 Om
  · intro a h1 h2;simp only[if_neg (show a≠m by omega)];by_cases e:PI a=m
    · grind
    · simp only[if_neg e];exact h.q2 a h1 Om
  · have h3:sm (fun a=>if a=m then S else CI a) (m+1)=sm CI m+S:=by
      grind [sm,bB]
    have h4:sm (fun a=>if a=m then S else CI a) c=sm CI c:=bB fun i hi=>by simp only[if_neg (show i≠m by omega)]
    have:=h.iZ;omega
theorem Tr.congr (h:Tr N C m p u c S B0 B CI PL PI) {CI' PL' PI':Nat→Nat} (h1:∀a,a<m→CI' a=CI a) (h2:∀i,u≤i→i<N→PL' i=PL i) (h3:∀a,a<c→PI' a=PI a):Tr N C m p u c S B0 B CI' PL' PI':=by
  have hn:=h.num;constructor
  · exact hn
  · exact h.mK
  · intro i a b;rw[h2 i a b];exact h.pl i a b
  · intro a ha;rw[h3 a ha];exact h.pi a ha
  · intro i j a b d;rw[h2 i a Om,h2 j Om d];exact h.ml i j a b d
  · intro a b d e;rw[h3 a Om,h3 b e];exact h.mi a b d e
  · intro W V hW hV;exact h.w W V (fun i a b=>by rw[←h2 i a b];exact hW i a b) (fun a ha=>by rw[←h3 a ha];exact hV a ha)
  · exact h.bb
  · intro i a b;rw[h2 i a b];exact h.c1 i a b
  · intro a ha;rw[h3 a ha,h1 a Om];exact h.c2 a ha
  · exact h.c3
  · intro a b d;rw[h1 a d];exact h.c4 a b d
  · exact h.cs
  · intro a b d e;rw[h1 a Om,h1 b e];exact h.cm a b d e
  · intro a ha;rw[h1 a ha];exact h.ti a ha
  · intro i a b d e;rw[h2 i a b] at d e ⊢;rw[h3 _ d] at e ⊢;rw[h1 _ e];exact h.g1 i a b d e
  · intro a b d e;rw[h3 a b] at d e ⊢;rw[h3 _ d] at e ⊢;rw[h1 _ e,h1 a Om];exact h.g2 a b d e
  · intro i a b d;rw[h2 i a b] at d ⊢;rw[h1 _ d];exact h.q1 i a b d
  · intro a b d;rw[h3 a b] at d ⊢;rw[h1 _ d,h1 a Om];exact h.q2 a b d
  · rw[bB (W:=CI') (W':=CI) h1,bB (W:=CI') (W':=CI) fun a ha=>h1 a Om];exact h.iZ
theorem Tr.fin (h:Tr N C m 0 u c S B0 B CI PL PI) (hm:m+1=N) (h1:1≤m):u=0∧c+1=m:=by
  have hn:=h.num;by_cases hc:c=m
  · have h2:=h.pi (m-1) Om;omega
  · omega
end
structure OX (N m:Nat) (PL PI DI DL:Nat→Nat):Prop where
  top:DI (m-1)=0
  VW:∀a,a+1<m→DI a=DI (PI a)+1
  leaf:∀i,i<N→DL i=DI (PL i)+1
section
variable {N:Nat} {C:Nat→Nat} {m S B0 B:Nat} {CI PL PI DI DL:Nat→Nat}
theorem OX.atf (hd:OX N m PL PI DI DL) (h:Tr N C m 0 0 (m-1) S B0 B CI PL PI) (h1:1≤m):∀k a b,m-a≤k→a≤b→b<m→DI b≤DI a:=by
  intro k;induction k with
  |zero=>intro a b h2 h3 h4;omega
  |succ k ih=>
    intro a b h2 h3 h4;by_cases hb:b+1=m
    · rw[show b=m-1 by omega,hd.top];exact Nat.zero_le _
    · rw[hd.VW a Om,hd.VW b Om];have p1:=h.pi a Om;have p2:=h.pi b Om;have p3:=h.mi a b h3 Om;grind
theorem OX.mono (hd:OX N m PL PI DI DL) (h:Tr N C m 0 0 (m-1) S B0 B CI PL PI) (h1:1≤m) {i j:Nat} (D5:i≤j) (hj:j<N):DL i≤DL j:=by
  rw[hd.leaf i Om,hd.leaf j hj];have p1:=h.ml i j (Nat.zero_le _) D5 hj;have p2:=h.pl i (Nat.zero_le _) Om;have:=hd.atf h h1 m (PL j) (PL i) Om p1 (p2.2 rfl);omega
theorem OX.inner (hd:OX N m PL PI DI DL) (h:Tr N C m 0 0 (m-1) S B0 B CI PL PI) (h1:1≤m):∀k a,DI a≤k→a<m→2^(DI a/2)*CI a≤CI (m-1):=by
  intro k;induction k using Nat.strongRecOn with
  |_ k ih=>
    intro a hk ha;by_cases e1:a+1=m
    · rw[show a=m-1 by omega,hd.top];simp
    · have d1:=hd.VW a Om;have p1:=h.pi a Om;by_cases e2:PI a+1=m
      · have d2:DI a=1:=by rw[d1,show PI a=m-1 by omega,hd.top]
        have:=h.q2 a Om (p1.2.2 rfl);grind
      · have lt:=p1.2.2 rfl;have d2:=hd.VW (PI a) Om;have p2:=h.pi (PI a) Om;have g:=h.g2 a Om Om (p2.2.2 rfl);have hi:=ih (DI (PI (PI a))) Om (PI (PI a)) (Nat.le_refl _) (p2.2.2 rfl);have e3:DI a/2=DI (PI (PI a))/2+1:=Om;rw[e3,Nat.pow_succ,Nat.mul_assoc];exact Nat.le_trans (Nat.mul_le_mul_left _ g) hi
theorem OX.low (hd:OX N m PL PI DI DL) (h:Tr N C m 0 0 (m-1) S B0 B CI PL PI) (h1:1≤m) {i:Nat} (hi:i<N):2^(DL i/2)*C i≤CI (m-1):=by
  have d1:=hd.leaf i hi;have p1:=h.pl i (Nat.zero_le _) hi;have lt:=p1.2 rfl;by_cases e2:PL i+1=m
  · have d2:DL i=1:=by rw[d1,show PL i=m-1 by omega,hd.top]
    have:=h.q1 i (Nat.zero_le _) hi lt;grind
  · have d2:=hd.VW (PL i) Om;have p2:=h.pi (PL i) Om;have g:=h.g1 i (Nat.zero_le _) hi Om (p2.2.2 rfl);have LC:=hd.inner h h1 _ (PI (PL i)) (Nat.le_refl _) (p2.2.2 rfl);have e3:DL i/2=DI (PI (PL i))/2+1:=Om;rw[e3,Nat.pow_succ,Nat.mul_assoc];exact Nat.le_trans (Nat.mul_le_mul_left _ g) LC
theorem Tr.root (h:Tr N C m 0 0 (m-1) 0 B0 B CI PL PI) (h1:1≤m):CI (m-1)=sm C N:=by
  have ht:=h.iZ;have h3:sm CI m=sm CI (m-1)+CI (m-1):=by rw[show m=(m-1)+1 by omega];rfl
  grind [sm]
theorem OX.gy (hd:OX N m PL PI DI DL) (h:Tr N C m 0 0 (m-1) S B0 B CI PL PI) (h1:1≤m) {L:Nat} (hL:∀i,i<N→DL i≤L) (hI:∀a,a<m→DI a≤L):sm (fun i=>2^(L-DL i)) N=2^L:=by
  have hw:=h.w (fun i=>2^(L-DL i)) (fun a=>2^(L-DI a)) (fun i _ hi=>by
    have:=hL i hi;have d:=hd.leaf i hi;show 2*2^(L-DL i)=2^(L-DI (PL i));rw[show L-DI (PL i)=(L-DL i)+1 by omega,Nat.pow_succ,Nat.mul_comm]) (fun a ha=>by
    have d:=hd.VW a Om;have:=hI a Om;show 2*2^(L-DI a)=2^(L-DI (PI a));rw[show L-DI (PI a)=(L-DI a)+1 by omega,Nat.pow_succ,Nat.mul_comm])
  have h3:sm (fun a=>2^(L-DI a)) m=sm (fun a=>2^(L-DI a)) (m-1)+2^(L-DI (m-1)):=by
    rw[show m=(m-1)+1 by omega];rfl
  rw[h3,hd.top] at hw;grind [sm]
end
theorem LD {S c L:Nat} (h:S/2^L<c) (hS:1≤S∧S≤65536) (hL:L≤12):1≤c*(4611686018427387904/S)/2^(62-L):=by
  have hp:0<2^L:=Nat.two_pow_pos _;have hq:0<2^(62-L):=Nat.two_pow_pos _;have e0:(4611686018427387904:Nat)=2^(62-L)*2^L:=by
    rw[←Nat.pow_add,show 62-L+L=62 by omega]
  have h1:S+1≤c*2^L:=by
    have:=(Nat.div_lt_iff_lt_mul hp).1 h;omega
  have h2:=Nat.div_add_mod 4611686018427387904 S;have h3:=Nat.mod_lt 4611686018427387904 (show 0<S by omega);have h4:65536≤4611686018427387904/S:=(Nat.le_div_iff_mul_le Om).2 Om;generalize ie:4611686018427387904/S=st at*;have h5:(S+1)*st≤c*2^L*st:=Nat.mul_le_mul_right _ h1;rw[Nat.add_mul,Nat.one_mul] at h5;have h6:2^(62-L)*2^L≤c*st*2^L:=by
    grind
  exact(Nat.le_div_iff_mul_le hq).2 (by rw[Nat.one_mul];exact Nat.le_of_mul_le_mul_right h6 hp)
theorem OY {S c L:Nat} (h:c≤S) (hS:1≤S) (hL:L≤12):c*(4611686018427387904/S)≤4611686018427387904∧c*(4611686018427387904/S)/2^(62-L)≤2^L:=by
  have hq:0<2^(62-L):=Nat.two_pow_pos _;have e0:(4611686018427387904:Nat)=2^L*2^(62-L):=by
    rw[←Nat.pow_add,show L+(62-L)=62 by omega]
  have h1:c*(4611686018427387904/S)≤4611686018427387904:=Nat.le_trans (Nat.mul_le_mul_right _ h) (Nat.mul_div_le _ _);refine⟨h1,?_⟩;have h2:c*(4611686018427387904/S)/2^(62-L)≤4611686018427387904/2^(62-L):=Nat.div_le_div_right h1;simp_all
theorem D' {cs:Nat→Nat} {k S L:Nat} (hS:sm cs k=S) (rR:0<S) (hk:k<2^L):∃i,i<k∧S/2^L<cs i:=by
  apply Classical.byContradiction;intro hn;have hle:∀i,i<k→cs i≤S/2^L:=fun i hi=>by
    grind
  have hb:∀n,n≤k→sm cs n≤n*(S/2^L):=by
    intro n;induction n with
    |zero=>intro _;simp[sm]
    |succ n ih=>
      grind [sm]
  have h1:=hb k (Nat.le_refl _);rw[hS] at h1;have hp:0<2^L:=Nat.two_pow_pos _;have h2:2^L*(S/2^L)≤S:=Nat.mul_div_le _ _;rcases Nat.eq_zero_or_pos (S/2^L) with h3|h3
  · grind
  · have h4:k*(S/2^L)<2^L*(S/2^L):=Nat.mul_lt_mul_of_pos_right hk h3;omega
theorem GO {v D t:Nat} (ht:1≤t) (hv:2≤v) (Xp:t≤2^(v-1)):(2^(v-1)-1+t*((2^v*D+(2^(v-1)-1))/t))/2^v=D:=by
  have hp:0<2^v:=Nat.two_pow_pos _;have e:2^v=2*2^(v-1):=by
    have:2^(v-1+1)=2^(v-1)*2:=Nat.pow_succ _ _;grind
  have h1:=Nat.div_add_mod (2^v*D+(2^(v-1)-1)) t;have h2:=Nat.mod_lt (2^v*D+(2^(v-1)-1)) (show 0<t by omega);have hp1:0<2^(v-1):=Nat.two_pow_pos _;generalize hX:t*((2^v*D+(2^(v-1)-1))/t)=X at*;rw[show 2^(v-1)-1+X=(2^(v-1)-1+X-2^v*D)+2^v*D by omega,Nat.add_mul_div_left _ _ hp,Nat.div_eq_of_lt Om];omega
abbrev mX:Nat:=4042322160
theorem J3:256<mX:=by decide
def kr (M:Nat):List Nat→Nat
  |[]=>0
  |b::bs=>2^(M-b)+kr M bs
def lv (M:Nat):List Nat→Nat
  |[]=>0
  |b::bs=>(if b=M then 1 else 0)+lv M bs
theorem acs {bs:List Nat} {p c i:Nat} (hp:p<bs.length):(bs.set p c).getD i 0=if i=p then c else bs.getD i 0:=by
  grind
theorem GR {M:Nat}:∀{bs:List Nat} {p c:Nat},p<bs.length→kr M (bs.set p c)+2^(M-bs.getD p 0)=kr M bs+2^(M-c)
  |[],p,c,h=>by simp at h
  |b::bs,0,c,_=>by simp only[List.set_cons_zero,kr,List.getD_cons_zero];omega
  |b::bs,p+1,c,h=>by
    have:=GR (M:=M) (bs:=bs) (p:=p) (c:=c) (by simpa using h);grind [kr]
theorem xY {M:Nat}:∀{bs:List Nat} {p c:Nat},p<bs.length→lv M (bs.set p c)+(if bs.getD p 0=M then 1 else 0)=lv M bs+(if c=M then 1 else 0)
  |[],p,c,h=>by simp at h
  |b::bs,0,c,_=>by simp only[List.set_cons_zero,lv,List.getD_cons_zero];omega
  |b::bs,p+1,c,h=>by
    have:=xY (M:=M) (bs:=bs) (p:=p) (c:=c) (by simpa using h);grind [lv]
theorem OZ {M k:Nat}:∀{bs:List Nat},(∀i,i<bs.length→bs.getD i 0=M∨bs.getD i 0+k≤M)→∃q,kr M bs=lv M bs+2^k*q
  |[],_=>⟨0,rfl⟩
  |b::bs,h=>by
    obtain⟨q,hq⟩:=OZ (M:=M) (k:=k) (bs:=bs) fun i hi=>by
      have:=h (i+1) (by simpa using hi);grind
    have h0:=h 0 Oi;simp only[List.getD_cons_zero] at h0;by_cases hb:b=M
    · grind [kr,lv]
    · have h1:b+k≤M:=h0.resolve_left hb;refine⟨2^(M-b-k)+q,?_⟩;have e:2^(M-b)=2^k*2^(M-b-k):=by rw[←Nat.pow_add];congr 1;omega
      grind [kr,lv]
theorem BE {M:Nat}:∀{bs:List Nat},lv M bs≤bs.length
  |[]=>Nat.le_refl _
  |b::bs=>by have:=BE (M:=M) (bs:=bs);simp only[lv,List.length_cons];split<;>omega
theorem tG {M:Nat}:∀{bs:List Nat},0<lv M bs→∃i,i<bs.length∧bs.getD i 0=M
  |[],h=>by simp[lv] at h
  |b::bs,h=>by
    by_cases hb:b=M
    · exact⟨0,Oi,by simpa using hb⟩
    · simp only[lv,if_neg hb,Nat.zero_add] at h;obtain⟨i,hi,he⟩:=tG h;exact⟨i+1,by simpa using hi,by simpa using he⟩
theorem GU {M:Nat}:∀{bs:List Nat},(∀i,i<bs.length→bs.getD i 0=M)→kr M bs=bs.length
  |[],_=>rfl
  |b::bs,h=>by
    have h0:=h 0 Oi;simp only[List.getD_cons_zero] at h0;have:=GU (M:=M) (bs:=bs) fun i hi=>by simpa using h (i+1) (by simpa using hi)
    grind [kr]
def Rk (M:Nat) (bs:List Nat) (k v:Nat):Prop:=
  (v=mX∧∀i,i<bs.length→bs.getD i 0+k≠M)∨(v<bs.length∧bs.getD v 0+k=M∧∀i,v<i→i<bs.length→bs.getD i 0+k≠M)
structure xZ (M:Nat) (bs:List Nat) (T:Int) (rl:List Nat):Prop where
  M11:M≤11
  len:bs.length≤256∧bs.length≤2^M
  mK:∀i j,i≤j→j<bs.length→bs.getD i 0≤bs.getD j 0
  sR:∀i,i<bs.length→1≤bs.getD i 0∧bs.getD i 0≤M
  sum:(kr M bs:Int)=((2^M:Nat):Int)+T
  mm:T<(lv M bs:Int)∧ -T<(lv M bs:Int)
  ex:T<0→∃i,i<bs.length∧bs.getD i 0<M
  acu:rl.length=13
  rk:∀k,1≤k→k≤12→Rk M bs k (rl.getD k 0)
theorem xZ.short {M:Nat} {bs rl:List Nat} {T:Int} (h:xZ M bs T rl) (hT:0<T):∃i,i<bs.length∧bs.getD i 0<M:=by
  apply Classical.byContradiction;intro hn;have ha:∀i,i<bs.length→bs.getD i 0=M:=fun i hi=>by
    have h1:=h.sR i hi;grind
  have h1:=GU ha;have h2:=h.sum;have h3:=h.len.2;omega
theorem xZ.some {M:Nat} {bs rl:List Nat} {T:Int} (h:xZ M bs T rl) (hT:0<T):∃k,1≤k∧k≤10∧rl.getD k 0≠mX:=by
  obtain⟨i,hi,hl⟩:=h.short hT;have h1:=h.sR i hi;have h2:=h.M11;refine⟨M-bs.getD i 0,Om,Om,fun e=>?_⟩;rcases h.rk (M-bs.getD i 0) Om Om with ⟨_,hn⟩|⟨hv,_⟩
  · grind
  · have:=h.len.1;have:=J3;rw[e] at hv;omega
theorem xZ.at_ {M:Nat} {bs rl:List Nat} {T:Int} (h:xZ M bs T rl) {k:Nat} (h1:1≤k) (h2:k≤12) (hk:rl.getD k 0≠mX):
    rl.getD k 0<bs.length∧bs.getD (rl.getD k 0) 0+k=M∧∀i,rl.getD k 0<i→i<bs.length→bs.getD i 0+k≠M:=by
  rcases h.rk k h1 h2 with ⟨e,_⟩|e
  · omega
  · exact e
def vc (M:Nat) (bs rl:List Nat) (k p:Nat):List Nat:=
  let r1:=if rl.getD (k-1) 0=mX then rl.set (k-1) p else rl
  if p=0 then r1.set k mX else if bs.getD (p-1) 0+k=M then r1.set k (p-1) else r1.set k mX
theorem GV (M:Nat) (bs rl:List Nat) (k p:Nat):(vc M bs rl k p).length=rl.length:=by
  grind [vc]
theorem GW {M:Nat} {bs rl:List Nat} {k p j:Nat} (hl:rl.length=13) (h1:1≤k) (h2:k≤12):(vc M bs rl k p).getD j 0=
    if j=k then (if p=0 then mX else if bs.getD (p-1) 0+k=M then p-1 else mX) else if j=k-1∧rl.getD (k-1) 0=mX then p else rl.getD j 0:=by
  grind [vc]
theorem xZ.step {M:Nat} {bs rl:List Nat} {T:Int} (h:xZ M bs T rl) (hT:0<T) {k:Nat} (h1:1≤k) (h2:k≤12) (hk:rl.getD k 0≠mX)
    (hc:((2^(k-1):Nat):Int)≤T∨(T<((2^(k-1):Nat):Int)∧∀j,1≤j→j<k→rl.getD j 0=mX)):
    xZ M (bs.set (rl.getD k 0) (M-k+1)) (T-((2^(k-1):Nat):Int)) (vc M bs rl k (rl.getD k 0)):=by
  obtain⟨hp,hb,pj⟩:=h.at_ h1 h2 hk;generalize hpe:rl.getD k 0=p at*;have hbp:=h.sR p hp;have hkM:k<M:=Om;have ja:∀i,(bs.set p (M-k+1)).getD i 0=if i=p then M-k+1 else bs.getD i 0:=fun i=>acs hp
  have hlen:(bs.set p (M-k+1)).length=bs.length:=List.length_set;have e1:2^(M-bs.getD p 0)=2^k:=by congr 1;omega
  have e2:2^(M-(M-k+1))=2^(k-1):=by congr 1;omega
  have e3:2^k=2*2^(k-1):=by rw[show k=(k-1)+1 by omega,Nat.pow_succ];simp;omega
  have hkr:=GR (M:=M) (c:=M-k+1) hp;have VX:=xY (M:=M) (c:=M-k+1) hp;rw[e1,e2] at hkr;rw[if_neg Om] at VX;have hs:=h.sum;have hm:=h.mm;have rR:0<2^(k-1):=Nat.two_pow_pos _;refine⟨h.M11,by rw[hlen];exact h.len,?_,?_,Om,?_,?_,by rw[GV];exact h.acu,?_⟩
  · intro i j D5 hj;rw[hlen] at hj;rw[ja,ja];have Bm:=h.mK i j D5 hj;grind
  · intro i hi;rw[hlen] at hi;rw[ja];split
    · omega
    · exact h.sR i hi
  · -- the number of those of M bits stays above the debt, and pays what is too much
    rcases hc with hc|⟨hc,r'⟩
    · omega
    · have qX:∀i,i<bs.length→bs.getD i 0=M∨bs.getD i 0+k≤M:=fun i hi=>by
        have hr:=h.sR i hi;rcases Nat.lt_or_ge M (bs.getD i 0+k) with h3|h3
        · rcases Nat.lt_or_ge (bs.getD i 0) M with h4|h4
          · exfalso
            rcases h.rk (M-bs.getD i 0) Om Om with ⟨_,hn⟩|⟨hv,_⟩
            · grind
            · rw[r' _ Om Om] at hv;have:=h.len.1;grind
          · left;omega
        · omega
      obtain⟨q,hq⟩:=OZ qX;have xN:k≠1:=by
        grind
      rw[if_neg Om] at VX
      -- cntB = T mod 2^k, and more than T
      have hMk:2^M=2^k*2^(M-k):=by rw[←Nat.pow_add];congr 1;omega
      have wR:T+((2^k:Nat):Int)≤(lv M bs:Int):=by
        have e4:(lv M bs:Int)-T=((2^k:Nat):Int)*(((2^(M-k):Nat):Int)-(q:Int)):=by
          grind
        have h5:0<(((2^(M-k):Nat):Int)-(q:Int)):=by
          apply Classical.byContradiction;intro hn;have h6:((2^k:Nat):Int)*(((2^(M-k):Nat):Int)-(q:Int))≤0:=Int.mul_nonpos_of_nonneg_of_nonpos (Int.natCast_nonneg _) Om;omega
        have h7:((2^k:Nat):Int)*1≤((2^k:Nat):Int)*(((2^(M-k):Nat):Int)-(q:Int)):=Int.mul_le_mul_of_nonneg_left Om (Int.natCast_nonneg _);omega
      omega
  · grind
  · intro j F8 CW;rw[GW h.acu h1 h2];by_cases hjk:j=k
    · subst hjk;rw[if_pos rfl];by_cases hp0:p=0
      · rw[if_pos hp0];left;grind
      · rw[if_neg hp0];by_cases hq:bs.getD (p-1) 0+j=M
        · rw[if_pos hq];right;grind
        · rw[if_neg hq];left;refine⟨rfl,fun i hi=>?_⟩;rw[hlen] at hi;rw[ja];split
          · omega
          · rename_i hip;rcases Nat.lt_or_ge p i with h3|h3
            · grind
            · have s1:=h.mK i (p-1) Om Om;have s2:=h.mK (p-1) p Om hp;omega
    · rw[if_neg hjk];by_cases hj:j=k-1∧rl.getD (k-1) 0=mX
      · rw[if_pos hj];obtain⟨hj3,hj4⟩:=hj;subst hj3;right;refine⟨by rw[hlen];exact hp,by rw[ja,if_pos rfl];omega,fun i hi1 LC=>?_⟩;rw[hlen] at LC;rw[ja,if_neg Om];rcases h.rk (k-1) F8 CW with ⟨_,hn⟩|⟨hv,_⟩
        · exact hn i LC
        · rw[hj4] at hv;have:=h.len.1;have:=J3;omega
      · rw[if_neg hj];rcases h.rk j F8 CW with ⟨hv,hn⟩|⟨hv,hve,hvl⟩
        · left;refine⟨hv,fun i hi=>?_⟩;rw[hlen] at hi;rw[ja];split
          · intro e;exact hj ⟨Om,by rw[show k-1=j by omega];exact hv⟩
          · exact hn i hi
        · right;have hvp:rl.getD j 0≠p:=fun e=>by rw[e] at hve;omega
          refine⟨by rw[hlen];exact hv,by rw[ja,if_neg hvp];exact hve,fun i hi1 LC=>?_⟩;rw[hlen] at LC;rw[ja];split
          · rename_i hip;intro e
            -- then j = k - 1, and its last place lies behind p
            have aHC:j=k-1:=Om;have s1:=h.mK (rl.getD j 0) p Om hp;omega
          · grind
structure x4 (M:Nat) (bs:List Nat) (T:Int) (v n:Nat):Prop where
  M11:M≤11
  len:bs.length≤256∧bs.length≤2^M
  mK:∀i j,i≤j→j<bs.length→bs.getD i 0≤bs.getD j 0
  sR:∀i,i<bs.length→1≤bs.getD i 0∧bs.getD i 0≤M
  sum:(kr M bs:Int)=((2^M:Nat):Int)+T
  T0:T≤0
  mm: -T<(lv M bs:Int)
  ex:T<0→∃i,i<bs.length∧bs.getD i 0<M
  rk:Rk M bs 1 v
  nn:v=mX→n<bs.length∧∀i,n<i→i<bs.length→bs.getD i 0=M
theorem xZ.pay {M n:Nat} {bs rl:List Nat} {T:Int} (h:xZ M bs T rl) (hT:T≤0) (hn:n<bs.length∧∀i,n<i→i<bs.length→bs.getD i 0=M):x4 M bs T (rl.getD 1 0) n:=
  ⟨h.M11,h.len,h.mK,h.sR,h.sum,hT,h.mm.2,h.ex,h.rk 1 Om Om,fun _=>hn⟩
theorem x4.put {M v n q:Nat} {bs:List Nat} {T:Int} (h:x4 M bs T v n) (hT:T<0) (hq:q<bs.length) (hM:bs.getD q 0=M) (hl:∀i,i<q→bs.getD i 0<M) (n':Nat):x4 M (bs.set q (M-1)) (T+1) q n':=by
  obtain⟨i0,hi0,uz⟩:=h.ex hT;have h0:=h.sR i0 hi0;have ja:∀i,(bs.set q (M-1)).getD i 0=if i=q then M-1 else bs.getD i 0:=fun i=>acs hq
  have hlen:(bs.set q (M-1)).length=bs.length:=List.length_set;have hkr:=GR (M:=M) (c:=M-1) hq;have VX:=xY (M:=M) (c:=M-1) hq;have e2:2^(M-(M-1))=2:=by rw[show M-(M-1)=1 by omega]
  rw[hM,Nat.sub_self,e2] at hkr;rw[if_pos hM,if_neg Om] at VX;have hs:=h.sum;have hm:=h.mm;refine⟨h.M11,by rw[hlen];exact h.len,?_,?_,by simp at hkr;omega,Om,Om,?_,?_,?_⟩
  · intro i j D5 hj;rw[hlen] at hj;rw[ja,ja];have Bm:=h.mK i j D5 hj;grind
  · intro i hi;rw[hlen] at hi;rw[ja];split
    · omega
    · exact h.sR i hi
  · grind
  · right;refine⟨by rw[hlen];exact hq,by rw[ja,if_pos rfl];omega,fun i hi1 LC=>?_⟩;rw[hlen] at LC;rw[ja,if_neg Om];have:=h.mK q i Om LC;omega
  · intro e;have:=h.len.1;grind
theorem x4.next {M v n:Nat} {bs:List Nat} {T:Int} (h:x4 M bs T v n) (hT:T<0) (hv:v≠mX):v+1<bs.length∧bs.getD (v+1) 0=M∧∀i,i<v+1→bs.getD i 0<M:=by
  rcases h.rk with ⟨e,_⟩|⟨h1,h2,h3⟩
  · omega
  · have hm:=h.mm;obtain⟨i,hi,he⟩:=tG (M:=M) (bs:=bs) Om;have h4:v<i:=by
      rcases Nat.lt_or_ge v i with h5|h5
      · exact h5
      · have:=h.mK i v h5 h1;omega
    have h5:=h.mK v (v+1) Om Om;have h6:=h3 (v+1) Om Om;have h7:=h.sR (v+1) Om;refine⟨Om,Om,fun j hj=>?_⟩;have:=h.mK j v Om h1;omega
theorem x4.first {M v n n':Nat} {bs:List Nat} {T:Int} (h:x4 M bs T v n) (hT:T<0) (h1:n'<bs.length) (h2:bs.getD n' 0≠M) (h3:∀i,n'<i→i<bs.length→bs.getD i 0=M):n'+1<bs.length∧bs.getD (n'+1) 0=M∧∀i,i<n'+1→bs.getD i 0<M:=by
  have hm:=h.mm;obtain⟨i,hi,he⟩:=tG (M:=M) (bs:=bs) Om;have hr:=h.sR n' h1;have h4:n'<i:=by
    rcases Nat.lt_or_ge n' i with h5|h5
    · exact h5
    · have:=h.mK i n' h5 h1;omega
  refine⟨Om,h3 _ Om Om,fun j hj=>?_⟩;have:=h.mK j n' Om h1;omega
theorem kk {W:Nat→Nat}:∀{n:Nat},sm W (n+1)=W 0+sm (fun i=>W (i+1)) n
  |0=>by simp[sm]
  |n+1=>by
    have:=kk (W:=W) (n:=n);grind [sm]
theorem vd {W:Nat→Nat} {a:Nat}:∀{b:Nat},sm W (a+b)=sm W a+sm (fun j=>W (a+j)) b
  |0=>by simp[sm]
  |b+1=>by
    (simp[sm,vd];omega)
theorem wX {V W:Nat→Nat}:∀{n:Nat},sm (fun i=>V i+W i) n=sm V n+sm W n
  |0=>rfl
  |n+1=>by simp only[sm];rw[wX (n:=n)];omega
theorem BF {W:Nat→Nat} {k:Nat}:∀{n:Nat},sm (fun i=>k*W i) n=k*sm W n
  |0=>by simp[sm]
  |n+1=>by simp only[sm];rw[BF (n:=n),Nat.mul_add]
theorem fV {k:Nat}:∀{n:Nat},sm (fun _=>k) n=n*k
  |0=>by simp[sm]
  |n+1=>by simp only[sm];rw[fV (n:=n),Nat.add_mul];omega
theorem O0 {W:Nat→Nat} {n:Nat} (hn:0<n) (h:∀i,i<n→0<W i):0<sm W n:=by
  cases n with
  |zero=>omega
  |succ n=>simp only[sm];have:=h n Om;omega
theorem J4 {V W:Nat→Nat}:∀{n:Nat},(∀i,i<n→V i≤W i)→sm V n≤sm W n
  |0,_=>Nat.le_refl _
  |n+1,h=>by
    have h1:=J4 (V:=V) (W:=W) (n:=n) fun i hi=>h i Om
    grind [sm]
theorem O3 {M:Nat}:∀{bs:List Nat},kr M bs=sm (fun i=>2^(M-bs.getD i 0)) bs.length
  |[]=>rfl
  |b::bs=>by
    simp_all [kk,kr,O3]
theorem J5 {M:Nat}:∀{bs:List Nat},lv M bs=sm (fun i=>if bs.getD i 0=M then 1 else 0) bs.length
  |[]=>rfl
  |b::bs=>by
    simp_all [kk,lv,J5]
theorem acv {M L N n:Nat} {b0:Nat→Nat} {bs:List Nat} (hML:M<L) (hn:n+1<N) (h1:∀i,i≤n→b0 i≤M) (h2:∀i,n<i→i<N→M<b0 i∧b0 i≤L) (hk:sm (fun i=>2^(L-b0 i)) N=2^L)
    (hlen:bs.length=N) (hb:∀i,i<N→bs.getD i 0=if i≤n then b0 i else M):
    ∃T,sm (fun j=>2^(L-M)-2^(L-b0 (n+1+j))) (N-1-n)=T*2^(L-M)∧1≤T∧kr M bs=2^M+T∧T<lv M bs:=by
  have hN:N=(n+1)+(N-1-n):=Om;have e1:2^(L-M)*kr M bs=sm (fun i=>2^(L-b0 i)) (n+1)+(N-1-n)*2^(L-M):=by
    rw[O3, ←BF,hlen];rw[show sm (fun i=>2^(L-M)*2^(M-bs.getD i 0)) N=sm (fun i=>2^(L-M)*2^(M-bs.getD i 0)) ((n+1)+(N-1-n)) by rw[←hN],vd];congr 1
    · apply bB;intro i hi;rw[hb i Om,if_pos Om, ←Nat.pow_add];grind
    · grind [fV,bB]
  have e2:sm (fun i=>2^(L-b0 i)) (n+1)+sm (fun j=>2^(L-b0 (n+1+j))) (N-1-n)=2^L:=by
    rw[←hk]
    conv=>rhs;rw[hN]
    exact(vd (a:=n+1)).symm
  have e3:sm (fun j=>2^(L-M)-2^(L-b0 (n+1+j))) (N-1-n)+sm (fun j=>2^(L-b0 (n+1+j))) (N-1-n)=(N-1-n)*2^(L-M):=by
    rw[←wX, ←fV (k:=2^(L-M))];apply bB;intro j hj;have:=h2 (n+1+j) Om Om;have h3:2^(L-b0 (n+1+j))≤2^(L-M):=Nat.pow_le_pow_right Om Om;omega
  have e4:2^L=2^(L-M)*2^M:=by rw[←Nat.pow_add];congr 1;omega
  have hp:0<2^(L-M):=Nat.two_pow_pos _;have e5:2^(L-M)*kr M bs=2^(L-M)*2^M+sm (fun j=>2^(L-M)-2^(L-b0 (n+1+j))) (N-1-n):=Om;have wR:2^M≤kr M bs:=by
    apply Nat.le_of_mul_le_mul_left _ hp;omega
  refine⟨kr M bs-2^M,?_,?_,Om,?_⟩
  · rw[Nat.mul_comm,Nat.mul_sub];omega
  · apply Nat.pos_of_ne_zero;intro h0;have e6:kr M bs=2^M:=Om;rw[e6] at e5;have:0<sm (fun j=>2^(L-M)-2^(L-b0 (n+1+j))) (N-1-n):=by
      apply O0 Om;intro j hj;have:=h2 (n+1+j) Om Om;have h3:2^(L-b0 (n+1+j))<2^(L-M):=Nat.pow_lt_pow_right Om Om;omega
    omega
  · have hc:N-1-n≤lv M bs:=by
      rw[J5,hlen]
      conv=>rhs;rw[hN]
      rw[vd (a:=n+1)];have:sm (fun j=>if bs.getD (n+1+j) 0=M then 1 else 0) (N-1-n)=N-1-n:=by
        rw[show sm (fun j=>if bs.getD (n+1+j) 0=M then 1 else 0) (N-1-n)=sm (fun _=>1) (N-1-n) from bB fun j hj=>by rw[if_pos (by rw[hb _ Om,if_neg Om])],fV,Nat.mul_one]
      omega
    have hs:0<sm (fun j=>2^(L-b0 (n+1+j))) (N-1-n):=O0 Om fun j _=>Nat.two_pow_pos _
    have:2^(L-M)*(kr M bs-2^M)<2^(L-M)*(N-1-n):=by
      rw[Nat.mul_sub,Nat.mul_comm (2^(L-M)) (N-1-n)];omega
    have:=Nat.lt_of_mul_lt_mul_left this;omega
def ct (P:Nat→Bool):Nat→Nat
  |0=>0
  |n+1=>ct P n+(bif P n then 1 else 0)
theorem BG {P:Nat→Bool}:∀{m n:Nat},m≤n→ct P m≤ct P n
  |m,0,h=>by rw[Nat.le_zero.1 h];exact Nat.le_refl _
  |m,n+1,h=>by
    rcases Nat.lt_or_ge m (n+1) with h1|h1
    · have:=BG (P:=P) (m:=m) (n:=n) Om;simp only[ct];omega
    · grind
theorem aj7 {P:Nat→Bool} {m n:Nat} (h:m<n) (hP:P m=true):ct P m<ct P n:=by
  have:=BG (P:=P) (m:=m+1) (n:=n) h;grind [ct]
theorem aj8 {m n:Nat} (h:m≤n):Nat.ble m n=true:=Nat.ble_eq_true_of_le h
theorem acw {m n:Nat} (h:n<m):Nat.ble m n=false:=by
  cases e:Nat.ble m n with
  |true=>have:=Nat.le_of_ble_eq_true e;omega
  |false=>rfl
theorem acx {m n:Nat} (h:m=n):Nat.beq m n=true:=by subst h;exact Nat.beq_refl m
theorem O4 {m n:Nat} (h:m≠n):Nat.beq m n=false:=by
  cases e:Nat.beq m n with
  |true=>exact(h (Nat.eq_of_beq_eq_true e)).elim
  |false=>rfl
def bk (h:Nat→Nat) (len r:Nat):Nat:=ct (fun x=>Nat.ble (r+1) (h x)) len
def lx (h:Nat→Nat) (r n:Nat):Nat:=ct (fun x=>Nat.beq (h x) r) n
theorem J6 {P:Nat→Bool}:∀{n:Nat},ct P n≤n
  |0=>Nat.le_refl _
  |n+1=>by have:=J6 (P:=P) (n:=n);simp only[ct];cases P n<;>simp<;>omega
theorem qI (h:Nat→Nat) (r:Nat):∀len:Nat,bk h len (r+1)+lx h (r+1) len=bk h len r
  |0=>rfl
  |n+1=>by
    have:=qI h r n;grind [bk,lx,ct,acw,O4,acx,aj8]
theorem tH (h:Nat→Nat):∀len:Nat,bk h len 0+lx h 0 len=len
  |0=>rfl
  |n+1=>by
    have:=tH h n;grind [bk,lx,ct,acw,acx,aj8,O4]
structure HS (len:Nat) (c h:Nat→Nat) (n:Nat) (Z:Nat→Nat × Nat):Prop where
  BH:∀x,x<n→∃i,bk h len (h x)≤i∧i<bk h len (h x)+lx h (h x) n∧Z i=(c x,x)
  out:∀r i,bk h len r≤i→i<bk h len r+lx h r n→∃x,x<n∧h x=r∧Z i=(c x,x)
  mK:∀r i j,bk h len r≤i→i≤j→j<bk h len r+lx h r n→(Z j).1≤(Z i).1
theorem HS.begin (len:Nat) (c h:Nat→Nat) (Z:Nat→Nat × Nat):HS len c h 0 Z:=⟨fun x hx=>Om,fun r i h1 h2=>by simp[lx,ct] at h2;omega,fun r i j h1 h2 h3=>by simp[lx,ct] at h3;omega⟩
theorem Ea {h:Nat→Nat} {n len:Nat} (hn:n<len):lx h (h n) n<lx h (h n) len:=aj7 hn Oi
theorem J7 {h:Nat→Nat} {len:Nat}:∀{r s:Nat},r≤s→bk h len s≤bk h len r
  |r,0,O5=>by rw[Nat.le_zero.1 O5];exact Nat.le_refl _
  |r,s+1,O5=>by
    rcases Nat.lt_or_ge r (s+1) with h1|h1
    · have h2:=J7 (h:=h) (len:=len) (r:=r) (s:=s) Om;grind [qI]
    · rw[show r=s+1 by omega];exact Nat.le_refl _
theorem tI {h:Nat→Nat} {len r s:Nat} (O5:r<s):bk h len s+lx h s len≤bk h len r:=by
  obtain⟨k,rfl⟩:∃k,s=k+1:=⟨s-1,Om⟩;rw[qI h k len];exact J7 Om
theorem HS.put {len n p:Nat} {c h:Nat→Nat} {Z Z':Nat→Nat × Nat} (H:HS len c h n Z) (hn:n<len) (hp:bk h len (h n)≤p∧p≤bk h len (h n)+lx h (h n) n)
    (r':p=bk h len (h n)∨c n≤(Z (p-1)).1) (aj9:∀i,p≤i→i<bk h len (h n)+lx h (h n) n→(Z i).1<c n)
    (z1:∀i,i<p→Z' i=Z i) (z2:Z' p=(c n,n)) (z3:∀i,p≤i→i<bk h len (h n)+lx h (h n) n→Z' (i+1)=Z i) (z4:∀i,bk h len (h n)+lx h (h n) n<i→Z' i=Z i):HS len c h (n+1) Z':=by
  have jm:=Ea (h:=h) hn;have jO:lx h (h n) (n+1)=lx h (h n) n+1:=by simp[lx,ct]
  have hot:∀r,r≠h n→lx h r (n+1)=lx h r n:=fun r hr=>by
    grind [lx,ct,O4]
  have hle:∀r,lx h r n≤lx h r len:=fun r=>BG Om
  -- other buckets are left as they are
  have aaf:∀r,r≠h n→∀i,bk h len r≤i→i<bk h len r+lx h r n→Z' i=Z i:=fun r hr i h1 h2=>by
    have h3:=hle r;rcases Nat.lt_or_gt_of_ne hr with h4|h4
    · have:=tI (h:=h) (len:=len) h4;grind
    · have:=tI (h:=h) (len:=len) h4;grind
  refine⟨fun x hx=>?_,fun r i h1 h2=>?_,fun r i j h1 h2 h3=>?_⟩
  · by_cases e:x=n
    · grind
    · obtain⟨i,i1,i2,i3⟩:=H.BH x Om;grind
  · by_cases er:r=h n
    · subst er;rw[jO] at h2;rcases Nat.lt_trichotomy i p with h5|h5|h5
      · obtain⟨x,x1,x2,x3⟩:=H.out (h n) i h1 Om;grind
      · grind
      · obtain⟨k,rfl⟩:∃k,i=k+1:=⟨i-1,Om⟩;obtain⟨x,x1,x2,x3⟩:=H.out (h n) k Om Om;grind
    · rw[hot r er] at h2;obtain⟨x,x1,x2,x3⟩:=H.out r i h1 h2;grind
  · by_cases er:r=h n
    · subst er;rw[jO] at h3
      -- the new one and what was there
      have key:∀i,bk h len (h n)≤i→i<bk h len (h n)+lx h (h n) n+1→(i<p∧Z' i=Z i)∨(i=p∧Z' i=(c n,n))∨(p<i∧Z' i=Z (i-1)):=fun i a b=>by
        grind
      rcases key i h1 Om with ⟨a,ea⟩|⟨a,ea⟩|⟨a,ea⟩<;>rcases key j Om Om with ⟨b,eb⟩|⟨b,eb⟩|⟨b,eb⟩<;>rw[ea,eb]
      · exact H.mK (h n) i j h1 h2 Om
      · rcases r' with r'|r'
        · omega
        · exact Nat.le_trans r' (H.mK (h n) i (p-1) h1 Om Om)
      · exact H.mK (h n) i (j-1) h1 Om Om
      · omega
      · omega
      · exact Nat.le_of_lt (aj9 (j-1) Om Om)
      · omega
      · omega
      · exact H.mK (h n) (i-1) (j-1) Om Om Om
    · rw[hot r er] at h3;rw[aaf r er i h1 Om,aaf r er j Om h3];exact H.mK r i j h1 h2 h3
theorem BI {h:Nat→Nat} {len R:Nat} (hR:bk h len R=0) {i:Nat} (hi:i<len):∃r,bk h len r≤i∧i<bk h len r+lx h r len:=by
  have:∀k r,r+k=R→(r=0∨i<bk h len (r-1))→∃r,bk h len r≤i∧i<bk h len r+lx h r len:=by
    intro k;induction k with
    |zero=>
      intro r hr eV;refine⟨r,by rw[show r=R by omega,hR];exact Nat.zero_le _,?_⟩;rcases eV with h0|h0
      · grind [tH]
      · have:=qI h (r-1) len;grind
    |succ k ih=>
      intro r hr eV;rcases Nat.lt_or_ge i (bk h len r) with h1|h1
      · exact ih (r+1) Om (.inr (by simpa using h1))
      · refine⟨r,h1,?_⟩;rcases eV with h0|h0
        · grind [tH]
        · have:=qI h (r-1) len;grind
  exact this R 0 Om (.inl rfl)
theorem HS.fin {len R:Nat} {c h:Nat→Nat} {Z:Nat→Nat × Nat} (H:HS len c h len Z) (hR:bk h len R=0) (hc:∀x y,x<len→y<len→h x<h y→c x≤c y):
    (∀i,i<len→∃x,x<len∧Z i=(c x,x))∧(∀x,x<len→∃i,i<len∧Z i=(c x,x))∧(∀i j,i≤j→j<len→(Z j).1≤(Z i).1):=by
  refine⟨fun i hi=>?_,fun x hx=>?_,fun i j D5 hj=>?_⟩
  · obtain⟨r,r1,r2⟩:=BI hR hi;obtain⟨x,x1,_,x3⟩:=H.out r i r1 r2;grind
  · obtain⟨i,i1,i2,i3⟩:=H.BH x hx;refine⟨i,?_,i3⟩;have h1:=tH h len;by_cases e:h x=0
    · grind
    · have h2:=tI (h:=h) (len:=len) (r:=0) (s:=h x) Om;omega
  · obtain⟨r,r1,r2⟩:=BI hR (show i<len by omega);obtain⟨s,s1,s2⟩:=BI hR hj;rcases Nat.lt_trichotomy r s with h1|h1|h1
    · have:=tI (h:=h) (len:=len) h1;omega
    · subst h1;exact H.mK r i j r1 D5 s2
    · obtain⟨x,x1,x2,x3⟩:=H.out r i r1 r2;obtain⟨y,y1,y2,y3⟩:=H.out s j s1 s2;grind
theorem BJ {W:Nat→Nat} {j v:Nat}:∀{n:Nat},j<n→sm (fun i=>if i=j then v else W i) n+W j=sm W n+v
  |0,h=>by omega
  |n+1,h=>by
    by_cases e:j=n
    · grind [sm,bB]
    · have:=BJ (W:=W) (j:=j) (v:=v) (n:=n) Om;grind [sm]
theorem x7 {v:Nat}:∀{n:Nat},v<n→sm (fun x=>if x=v then 1 else 0) n=1
  |0,h=>by omega
  |n+1,h=>by
    by_cases e:v=n
    · subst e;simp only[sm,if_true];rw[bB (W:=fun x=>if x=v then 1 else 0) (W':=fun _=>0) fun i hi=>by simp only[if_neg (show i≠v by omega)],fV];omega
    · have:=x7 (v:=v) (n:=n) Om;grind [sm]
theorem J8 {W:Nat→Nat}:∀{n:Nat},sm W n≠0→∃i,i<n∧W i≠0
  |0,h=>(h rfl).elim
  |n+1,h=>by
    by_cases e:W n=0
    · obtain⟨i,hi,hw⟩:=J8 (W:=W) (n:=n) (by simp only[sm] at h;omega);grind
    · exact⟨n,Om,e⟩
theorem BK:∀{n:Nat} {g:Nat→Nat},(∀i,i<n→g i<n)→(∀i j,i<n→j<n→g i=g j→i=j)→∀W:Nat→Nat,sm (fun i=>W (g i)) n=sm W n
  |0,_,_,_,_=>rfl
  |n+1,g,hg,hi,W=>by
    have hv:=hg n Om;by_cases hj:∃j,j<n∧g j=n
    · obtain⟨j,hjn,hjg⟩:=hj
      -- j and n change their places
      have hvn:g n≠n:=fun e=>by have:=hi j n Om Om (by rw[hjg,e]);omega
      have ih:=BK (n:=n) (g:=fun i=>if i=j then g n else g i) (fun i jO=>by
        show(if i=j then g n else g i)<n;split
        · omega
        · rename_i wv;have h1:=hg i Om;have:g i≠n:=fun e=>wv (hi i j Om Om (by rw[e,hjg]))
          omega) (fun a b ha hb LF=>by
        change (if a=j then g n else g a)=(if b=j then g n else g b) at LF
        by_cases ea:a=j
        · grind
        · by_cases eb:b=j
          · grind
          · rw[if_neg ea,if_neg eb] at LF;exact hi a b Om Om LF) W
      have hu:=BJ (W:=fun i=>W (g i)) (j:=j) (v:=W (g n)) (n:=n) hjn;have hc:sm (fun i=>W (if i=j then g n else g i)) n=sm (fun i=>if i=j then W (g n) else W (g i)) n:=bB fun i _=>by split<;>rfl
      grind [sm]
    · have hg':∀i,i<n→g i<n:=fun i jO=>by
        grind
      have ih:=BK (n:=n) (g:=g) hg' (fun a b ha hb=>hi a b Om Om);have hvn:g n=n:=by
        apply Classical.byContradiction;intro wv;have h1:=ih fun x=>if x=g n then 1 else 0
        rw[x7 (show g n<n by omega)] at h1;obtain⟨i,jO,hw⟩:=J8 (n:=n) (W:=fun i=>if g i=g n then 1 else 0) (by rw[h1];omega);grind
      grind [sm]
theorem BL {n:Nat} {P Q:Nat→Nat} {s:Nat→Nat} (hs:∀x,x<n→∃i,i<n∧s i=x) (hPQ:∀i,i<n→P i=Q (s i)):sm Q n=sm P n:=by
  have hc:∀x,∃i,x<n→i<n∧s i=x:=fun x=>by
    by_cases hx:x<n
    · grind
    · exact⟨0,fun h=>(hx h).elim⟩
  let g:Nat→Nat:=fun x=>Classical.choose (hc x)
  have hgs:∀x,x<n→g x<n∧s (g x)=x:=fun x hx=>Classical.choose_spec (hc x) hx
  rw[←BK (n:=n) (g:=g) (fun i hi=>(hgs i hi).1) (fun a b ha hb LF=>by rw[←(hgs a ha).2, ←(hgs b hb).2,LF]) P];grind [bB]
def sa (F:Nat→Int→Nat) (NR:List Int) (i:Nat):Nat:=sm (fun j=>F j (NR.getD j 0)) i
section
variable {F:Nat→Int→Nat} {NR:List Int} {i n:Nat} {v:Int}
theorem dK {xs:List Int} {i j:Nat} {v:Int} (h:i<xs.length):(xs.set i v).getD j 0=if i=j then v else xs.getD j 0:=by
  grind
theorem Xq (h:∀j,j<i→j≠n) (hn:n<NR.length):sa F (NR.set n v) i=sa F NR i:=bB fun j hj=>by rw[dK hn,if_neg (fun e=>h j hj e.symm)]
theorem et (hi:i<NR.length):sa F (NR.set i v) (i+1)=sa F NR i+F i v:=by
  show sa F (NR.set i v) i+F i ((NR.set i v).getD i 0)=_;grind [Xq,dK]
theorem mL:sa F NR (i+1)=sa F NR i+F i (NR.getD i 0):=rfl
theorem BM (hi:i<n) (hl:i<NR.length):sa F (NR.set i v) n+F i (NR.getD i 0)=sa F NR n+F i v:=by
  have h:=BJ (W:=fun j=>F j (NR.getD j 0)) (v:=F i v) hi;grind [sa,bB,dK]
end
def fA:Nat→Int→Nat:=fun _ z=>z.natAbs
structure Pa (CN:List Nat) (NR:List Int) (i:Nat):Prop where
  ge:∀j,j<i→ -1≤NR.getD j 0
  z:∀j,j<i→(NR.getD j 0=0↔CN.getD j 0=0)
theorem Pa.zero (CN:List Nat) (NR:List Int):Pa CN NR 0:=⟨fun j h=>Om,fun j h=>Om⟩
theorem Pa.step {CN:List Nat} {NR:List Int} {i:Nat} {v:Int} (h:Pa CN NR i) (hi:i<NR.length) (h1: -1≤v) (h2:v=0↔CN.getD i 0=0):Pa CN (NR.set i v) (i+1):=by
  refine⟨fun j hj=>?_,fun j hj=>?_⟩
  · rw[dK hi];split
    · exact h1
    · exact h.ge j Om
  · rw[dK hi];split
    · grind
    · exact h.z j Om
theorem Pa.put {CN:List Nat} {NR:List Int} {i n:Nat} {v:Int} (h:Pa CN NR n) (hi:i<NR.length) (h1:1≤v) (h2:NR.getD i 0≠0):Pa CN (NR.set i v) n:=by
  refine⟨fun j hj=>?_,fun j hj=>?_⟩
  · rw[dK hi];split
    · omega
    · exact h.ge j Om
  · rw[dK hi];split
    · rename_i e;subst e;have:=h.z i hj;omega
    · exact h.z j Om
def ve (NR:List Int) (i lp lg:Nat):Prop:=(lp=0∧∀j,j<i→NR.getD j 0≤0)∨(1≤lp∧lg<i∧NR.getD lg 0=lp)
theorem ve.zero (NR:List Int) (lg:Nat):ve NR 0 0 lg:=.inl ⟨rfl,fun j h=>Om⟩
theorem ve.low {NR:List Int} {i lp lg:Nat} {v:Int} (h:ve NR i lp lg) (hi:i<NR.length) (hv:v≤0):ve (NR.set i v) (i+1) lp lg:=by
  rcases h with ⟨h1,h2⟩|⟨h1,h2,h3⟩
  · refine .inl ⟨h1,fun j hj=>?_⟩;grind [dK]
  · exact .inr ⟨h1,Om,by rw[dK hi,if_neg Om];exact h3⟩
theorem ve.new {NR:List Int} {i v:Nat} (hi:i<NR.length) (hv:1≤v):ve (NR.set i (v:Int)) (i+1) v i:=.inr ⟨hv,Om,by rw[dK hi,if_pos rfl]⟩
theorem ve.old {NR:List Int} {i lp lg v:Nat} (h:ve NR i lp lg) (hi:i<NR.length) (h1:1≤v) (hv:v≤lp):ve (NR.set i (v:Int)) (i+1) lp lg:=by
  rcases h with ⟨h1,h2⟩|⟨h1,h2,h3⟩
  · omega
  · exact .inr ⟨h1,Om,by rw[dK hi,if_neg Om];exact h3⟩
structure vV (L:Nat) (CN:List Nat) (NR:List Int) (n:Nat):Prop where
  I:Pa CN NR n
  sum:sa fA NR n=2^L
theorem Az {W:Nat→Nat} {j:Nat}:∀{n:Nat},j<n→sm W n≤W j→∀i,i<n→i≠j→W i=0
  |0,h,_=>by omega
  |n+1,h,hs=>fun i hi D5=>by
    simp only[sm] at hs;by_cases e:j=n
    · subst e;have hz:sm W j=0:=Om;have h1:i<j:=Om;apply Classical.byContradiction;intro wv;have hx:∀m,i<m→W i≤sm W m:=fun m=>by
        induction m with
        |zero=>intro h;omega
        |succ m ih=>
          grind [sm]
      grind
    · have hj:j<n:=Om;have hx:∀m,j<m→W j≤sm W m:=fun m=>by
        induction m with
        |zero=>intro h;omega
        |succ m ih=>
          grind [sm]
      have hle:=hx n hj;by_cases e3:i=n
      · grind
      · exact Az hj Om i Om D5
theorem J9:∀(cs:List Int),(a4 cs).sum=sm (fun j=>(cs.getD j 0).natAbs) cs.length
  |[]=>rfl
  |n::cs=>by
    rw[a4,List.map_cons,List.sum_cons,List.length_cons,kk];simp only[List.getD_cons_zero,List.getD_cons_succ];rw[←J9 cs];rfl
theorem fW {NR:List Int} {n i:Nat} (h:i<n):(NR.take n).getD i 0=NR.getD i 0:=by simp[List.getD_eq_getElem?_getD,List.getElem?_take,h]
theorem vV.counts {L:Nat} {CN:List Nat} {NR:List Int} {n:Nat} (h:vV L CN NR n) (hL:L=5∨L=6) (hn:n≤13) (hl:n≤NR.length) {S:Nat} (hS:sm (fun j=>CN.getD j 0) n=S) (hm:∀j,j<n→CN.getD j 0<S):bx L (NR.take n):=by
  have hlen:(NR.take n).length=n:=by rw[List.length_take];omega
  have aka:∀c ∈ NR.take n,∃j,j<n∧c=NR.getD j 0:=fun c hc=>by
    obtain⟨i,hi,rfl⟩:=List.getElem_of_mem hc;rw[hlen] at hi;exact⟨i,hi,by simp[List.getD_eq_getElem?_getD,show i<NR.length by omega]⟩
  refine⟨hL,?_,Om,fun c hc=>?_,fun c hc=>?_⟩
  · rw[J9,hlen, ←h.sum];exact bB fun j hj=>by rw[fW hj];rfl
  · obtain⟨j,hj,rfl⟩:=aka c hc;exact h.I.ge j hj
  · obtain⟨j,hj,rfl⟩:=aka c hc;apply Classical.byContradiction;intro wR;have e:((2:Int)^L)=((2^L:Nat):Int):=Oi;rw[e] at wR;have hz:=Az (W:=fun j=>fA j (NR.getD j 0)) hj (by have:=h.sum;unfold sa at this;rw[this];show 2^L≤(NR.getD j 0).natAbs;omega);have C1:∀i,i<n→i≠j→CN.getD i 0=0:=fun i hi D5=>(h.I.z i hi).1 (by have:=hz i hi D5;simpa [fA] using this)
    have:sm (fun i=>CN.getD i 0) n=CN.getD j 0:=by
      have e1:=BJ (W:=fun i=>CN.getD i 0) (v:=0) hj;have e2:sm (fun i=>if i=j then 0 else CN.getD i 0) n=0:=by
        have:sm (fun i=>if i=j then 0 else CN.getD i 0) n=sm (fun _=>0) n:=bB fun i hi=>by
          grind
        rw[this,fV,Nat.mul_zero]
      omega
    grind
def zj (CN:List Nat):Nat→Int→Nat:=fun j z=>if z= -2 then CN.getD j 0 else 0
def MI:Nat→Int→Nat:=fun _ z=>if z= -2 then 0 else z.natAbs
structure GX (CN:List Nat) (NR:List Int) (i:Nat):Prop where
  cls:∀j,j<i→(CN.getD j 0=0∧NR.getD j 0=0)∨(CN.getD j 0≠0∧(NR.getD j 0= -1∨NR.getD j 0=1∨NR.getD j 0= -2))
theorem GX.zero (CN:List Nat) (NR:List Int):GX CN NR 0:=⟨fun j h=>Om⟩
theorem GX.step {CN:List Nat} {NR:List Int} {i:Nat} {v:Int} (h:GX CN NR i) (hi:i<NR.length) (hv:(CN.getD i 0=0∧v=0)∨(CN.getD i 0≠0∧(v= -1∨v=1∨v= -2))):GX CN (NR.set i v) (i+1):=⟨fun j hj=>by
  rw[dK hi];split
  · grind
  · exact h.cls j Om⟩
theorem GX.put {CN:List Nat} {NR:List Int} {i n:Nat} (h:GX CN NR n) (hi:i<NR.length) (hn:i<n) (hv:NR.getD i 0= -2):GX CN (NR.set i 1) n:=⟨fun j hj=>by
  rw[dK hi];split
  · rename_i e;subst e;rcases h.cls i hn with ⟨_,h2⟩|⟨h1,_⟩
    · omega
    · omega
  · exact h.cls j hj⟩
theorem GX.akb {CN:List Nat} {NR:List Int} {n:Nat} (h:GX CN NR n):sa MI NR n≤n:=by
  have h1:sa MI NR n≤sm (fun _=>1) n:=J4 fun j hj=>by
    unfold MI;split
    · omega
    · rename_i h9;rcases h.cls j hj with ⟨_,h2⟩|⟨_,h2|h2|h2⟩
      · rw[h2];simp
      · rw[h2];simp
      · rw[h2];simp
      · omega
  simp_all [fV]
theorem Xr {S d A lo L:Nat} (hL:L=5∨L=6) (hS:0<S) (hd:d≤13) (Eb:lo=3*S/2^(L+1)) (hA:A≤d*lo):A<S:=by
  have h1:d*lo≤13*lo:=Nat.mul_le_mul_right _ hd;grind
theorem Pb {T T0 d d0 lo L:Nat} (hL:L=5∨L=6) (hT:0<T0) (hd:d≤13) (h0:d0≤d) (Eb:lo=T0*3/((2^L-d0)*2)) (hA:T0≤T+(d-d0)*lo):0<T:=by
  have hZ:32≤2^L:=by rcases hL with rfl|rfl<;>decide
  have hp:0<(2^L-d0)*2:=Om;have h2:lo*((2^L-d0)*2)≤T0*3:=by rw[Eb];exact Nat.div_mul_le_self _ _
  apply Classical.byContradiction;intro hn;have Pc:T0≤(d-d0)*lo:=Om;have h3:(d-d0)*lo≤(13-d0)*lo:=Nat.mul_le_mul_right _ Om
  -- T0 * (2 (32 - d0)) ≤ (13 - d0) * lo * 2 (32 - d0) ≤ (13 - d0) * 3 * T0
  have h4:T0*((2^L-d0)*2)≤(13-d0)*(T0*3):=by
    calc T0*((2^L-d0)*2)≤((13-d0)*lo)*((2^L-d0)*2):=Nat.mul_le_mul_right _ Om
      _=(13-d0)*(lo*((2^L-d0)*2)):=Nat.mul_assoc _ _ _
      _≤(13-d0)*(T0*3):=Nat.mul_le_mul_left _ h2
  have h5:T0*((2^L-d0)*2)≤T0*((13-d0)*3):=by
    grind
  have h6:=Nat.le_of_mul_le_mul_left h5 hT;omega
structure GY (CN:List Nat) (N0 NR:List Int) (n i:Nat) (v sQ rs:Nat) (tmp:Nat):Prop where
  rest:∀j,i≤j→NR.getD j 0=N0.getD j 0
  ge:∀j,j<i→ -1≤NR.getD j 0
  z:∀j,j<i→(NR.getD j 0=0↔CN.getD j 0=0)
  at_:tmp=sQ+sa (zj CN) N0 i*rs
  sum:sa fA NR i=sa MI N0 i+tmp/2^v
theorem GY.zero {CN:List Nat} {NR:List Int} {n v sQ rs:Nat} (hm:sQ<2^v):GY CN NR NR n 0 v sQ rs sQ:=⟨fun _ _=>rfl,fun j h=>Om,fun j h=>Om,by simp[sa,sm],by rw[Nat.div_eq_of_lt hm];rfl⟩
theorem GY.same {CN:List Nat} {N0 NR:List Int} {n i v sQ rs tmp:Nat} (h:GY CN N0 NR n i v sQ rs tmp) (hJ:GX CN N0 n) (hi:i<n) (wv:NR.getD i 0≠ -2):GY CN N0 NR n (i+1) v sQ rs tmp:=by
  have e:=h.rest i (Nat.le_refl _);have hc:=hJ.cls i hi;rw[←e] at hc;refine⟨fun j hj=>h.rest j Om,fun j hj=>?_,fun j hj=>?_,?_,?_⟩
  · by_cases ej:j=i
    · grind
    · exact h.ge j Om
  · by_cases ej:j=i
    · grind
    · exact h.z j Om
  · rw[mL, ←e,h.at_];simp only[zj,if_neg wv,Nat.add_zero]
  · rw[mL,mL,h.sum, ←e];simp only[fA,MI,if_neg wv];omega
theorem GY.next {CN:List Nat} {N0 NR:List Int} {n i v sQ rs tmp w:Nat} (h:GY CN N0 NR n i v sQ rs tmp) (hJ:GX CN N0 n) (hi:i<n) (hl:i<NR.length) (he:NR.getD i 0= -2) (hw:w=(tmp+CN.getD i 0*rs)/2^v-tmp/2^v) (h1:1≤w):GY CN N0 (NR.set i (w:Int)) n (i+1) v sQ rs (tmp+CN.getD i 0*rs):=by
  have e:=h.rest i (Nat.le_refl _);have hc:=hJ.cls i hi;rw[←e] at hc;refine⟨fun j hj=>?_,fun j hj=>?_,fun j hj=>?_,?_,?_⟩
  · rw[dK hl,if_neg Om];exact h.rest j Om
  · rw[dK hl];split
    · omega
    · exact h.ge j Om
  · rw[dK hl];split
    · grind
    · exact h.z j Om
  · rw[mL, ←e,h.at_];simp only[zj,if_pos he];rw[Nat.add_mul];omega
  · rw[et hl,mL,h.sum, ←e];simp only[fA,MI,if_pos he,Int.natAbs_natCast];omega
theorem GY.done {CN:List Nat} {N0 NR:List Int} {n L tmp d:Nat} (hL:L=5∨L=6) {v sQ rs iZ:Nat} (h:GY CN N0 NR n n v sQ rs tmp) (hv:v=62-L) (LG:sQ=2^(v-1)-1) (ht:sa (zj CN) N0 n=iZ) (VP:1≤iZ) (ht1:iZ≤65536) (hd:sa MI N0 n=d) (hd2:d≤2^L) (O5:rs=(2^v*(2^L-d)+sQ)/iZ):vV L CN NR n:=by
  refine⟨⟨h.ge,h.z⟩,?_⟩;have hp:65536≤2^(v-1):=by
    grind
  have hs:=GO (v:=v) (D:=2^L-d) (t:=iZ) VP (by rcases hL with rfl|rfl<;>omega) Om;rw[h.sum,hd,h.at_,ht,O5,LG,hs];omega
section
variable {α:Type} {f:Nat→α} {L size:Nat} {cs:List Int} {s e k p:Nat} {G G':Nat→α}
theorem x8 (hC:bx L cs) (hz:size=2^L) (h:eH size (bl cs).length (fun i=>f ((mJ cs).getD i 0)) G 0 (kR cs s)) (Eb:cs.getD s 0= -1) (he:e+kR cs s+1=size) (e1:G' e=f s) (o:∀u,u≠e→G' u=G u):eH size (bl cs).length (fun i=>f ((mJ cs).getD i 0)) G' 0 (kR cs (s+1)):=by
  subst hz;have hs:=hC.sz;have ha:=hC.all.1;have hl:=Xo hC Eb;have h9:kR cs (s+1)=kR cs s+1:=by rw[fh,Eb];rfl
  rw[h9];refine h.low hs hl ?_ ?_
  · grind [kR,OW]
  · grind
theorem tJ (h:eH size (bl cs).length (fun i=>f ((mJ cs).getD i 0)) G 0 (kR cs s)) (Eb:0≤cs.getD s 0):eH size (bl cs).length (fun i=>f ((mJ cs).getD i 0)) G 0 (kR cs (s+1)):=by
  grind [kR,fh]
theorem Xs (hC:bx L cs) (hz:size=2^L) (hk:k<(cs.getD s 0).toNat):dR cs s+k<size-(bl cs).length:=by
  have ha:=hC.all.1;have:=D4 (cs:=cs) (s:=s+1);grind [gN]
theorem AA (hC:bx L cs) (hz:size=2^L) (h:eH size (bl cs).length (fun i=>f ((mJ cs).getD i 0)) G (dR cs s+k) (bl cs).length) (hk:k<(cs.getD s 0).toNat) (hp:p=wG size (bl cs).length (dR cs s+k)) (e1:G' p=f s) (o:∀u,u≠p→G' u=G u):eH size (bl cs).length (fun i=>f ((mJ cs).getD i 0)) G' (dR cs s+(k+1)) (bl cs).length:=by
  have eV:=Xs hC hz hk;subst hz;have hs:=hC.sz;rw[Xn hs eV] at hp;exact h.flat hs eV hp (by rw[e1,LA hk]) o
theorem AB (hC:bx L cs) (hz:size=2^L) (h:eH size (bl cs).length (fun i=>f ((mJ cs).getD i 0)) G (dR cs s) (bl cs).length) (hs:cs.length≤s) {u:Nat} (hu:u<size):G u=f ((cY L cs).getD u 0):=by
  subst hz;rw[Ay hs,hC.all.1] at h;rw[h.done hC.sz hu,GN hu]
theorem Ec (hC:bx L cs) (hz:size=2^L):0=wG size (bl cs).length (dR cs 0):=by subst hz;exact(OT hC.sz).symm
theorem Pd (hC:bx L cs) (hz:size=2^L) (hs:cs.length≤s):wG size (bl cs).length (dR cs s)=0:=by subst hz;rw[Ay hs,hC.all.1];exact OU hC.sz
theorem Pe (hC:bx L cs) (hz:size=2^L) (k:Nat):wG size (bl cs).length k+(bl cs).length<size:=by subst hz;exact acr hC.sz k
theorem Pf (hC:bx L cs) (hz:size=2^L) (k:Nat):goM size (bl cs).length size ((wG size (bl cs).length k+fS size)%size)=wG size (bl cs).length (k+1):=by subst hz;exact OV hC.sz k
theorem J' (hC:bx L cs) (hz:size=2^L) {w t:Nat} (h:goM size (bl cs).length size w=t) (hw:w+(bl cs).length<size):w=t:=by subst hz;rw[OG hC.sz hw] at h;exact h
theorem wY (hC:bx L cs) (hz:size=2^L) {w t:Nat} (h:goM size (bl cs).length size w=t) (hw:w<size) (hn:¬w+(bl cs).length<size):goM size (bl cs).length size ((w+fS size)%size)=t∧stM size (bl cs).length size ((w+fS size)%size)<stM size (bl cs).length size w:=by
  subst hz;obtain⟨h1,h2⟩:=OH hC.sz hw hn;omega
theorem Ka (hC:bx L cs):(bl cs).length≤13:=by have:=hC.sz.2;omega
end
theorem Kb:∀(ws:List Nat) (i:Nat),dY ws 15→(nib ws).getD i 0/16=ws.getD (2*i) 0∧(nib ws).getD i 0%16=ws.getD (2*i+1) 0∧(nib ws).getD i 0<256
  |[],i,_=>by simp[nib]
  |[a],0,h=>by
    have ha:=h a List.mem_cons_self;grind [nib]
  |[a],i+1,h=>by simp[nib,Nat.mul_add,List.getD_eq_getElem?_getD]
  |a::b::r,0,h=>by
    have ha:=h a List.mem_cons_self;have hb:=h b (List.mem_cons_of_mem _ List.mem_cons_self);grind [nib]
  |a::b::r,i+1,h=>by
    have:=Kb r i (fun x hx=>h x (List.mem_cons_of_mem _ (List.mem_cons_of_mem _ hx)));grind [nib]
theorem HW.Kc {ls:List Nat} {L last:Nat} (h:HW ls L last) (hw:gL ls):1≤last:=Classical.byContradiction fun hn=>by
  have e:last=0:=Om;obtain⟨h1,h2,h3⟩:=ph h hw;subst e;have h4:cellsW (bM ls L 0)=0:=rfl;have h5:(2:Nat)^(L-ls.getD 0 0)<2^L:=Nat.pow_lt_pow_right Om Om;omega
theorem akc {D D8:List Nat} {a i e:Nat} (h:D8=cQ D a (List.replicate i e)) (hl:a+i+4≤D.length):(((D8.set (a+i) e).set (a+i+1) e).set (a+i+2) e).set (a+i+3) e=cQ D a (List.replicate (i+4) e):=by
  grind [D2]
theorem akd {D D8:List Nat} {a i e:Nat} (h:D8=cQ D a (List.replicate i e)) (hl:a+i<D.length):D8.set (a+i) e=cQ D a (List.replicate (i+1) e):=by
  grind [D2]
theorem Xt {a n:Nat} (h:a<256):a|||256*n=a+256*n:=by
  have:=eJ (a:=n) (b:=a) (n:=8) h;grind
theorem pk {x y:Nat} (h:x<16) (k:y<16):x|||y<16:=Nat.or_lt_two_pow (n:=4) h k
theorem Pg {w:Nat} (h:1≤w):2^w/2^1=2^(w-1):=by
  obtain⟨m,rfl⟩:∃m,w=m+1:=⟨w-1,Om⟩;grind
theorem Ph {m:Nat} (h:4≤2^m):2^m%4=0:=by
  have h2:2≤m:=Classical.byContradiction fun hn=>by
    have:=Nat.pow_le_pow_right (show 0<2 by omega) (show m≤1 by omega);omega
  obtain⟨k,rfl⟩:∃k,m=k+2:=⟨m-2,Om⟩;grind
theorem LH {W ws:List Nat} {n j:Nat} (h:W.take n=ws) (hj:j<n):W.getD j 0=ws.getD j 0:=by
  grind
theorem Pj {W ws aw:List Nat} {n x j:Nat} (h:∀j,j<n→W.getD j 0=ws.getD j 0) (hw:ws.length=n) (hl:n<W.length) (e:aw=ws++[x]) (hj:j<n+1):(W.set n x).getD j 0=aw.getD j 0:=by
  grind
structure GZ (ws aw:List Nat) (L last nl:Nat):Prop where
  wl:ws.length=last
  wL:∀w ∈ ws,w≤L
  al:aw.length=last+1
  aL:∀w ∈ aw,w≤L
  ea:aw=ws++[L-nl+1]
  L1:1≤L∧L≤11
  nl1:1≤nl∧nl≤L
  Kc:1≤last∧last≤255
  sum:cellsW ws+2^(L-nl)=2^L
  ake:cellsW aw=2^L
  log:aq (cellsW ws)=L∧2^(L-1)≤cellsW ws
  ev:2≤aw.count 1∧aw.count 1%2=0
theorem GZ.of {ls ws aw:List Nat} {L last nl:Nat} (h:HW ls L last) (hw:gL ls) (he:ib ls) (h1:ws=bM ls L last) (h2:aw=kQ ls L last) (h3:nl=ls.getD last 0):GZ ws aw L last nl:=by
  subst h1;subst h2;subst h3;have hl:=h.lt;have DK:=hw.1;obtain⟨s1,s2,s3⟩:=ph h hw;refine⟨j5 Om,tu,vR h,BB,?_,⟨h.L1,h.L11 hw⟩,⟨s2,s3⟩,⟨h.Kc hw,Om⟩,s1,pg h hw (h.L11 hw),DZ h hw,BC h (h.L11 hw) he⟩;grind [Aq,u6]
theorem dY.of {ws:List Nat} {L:Nat} (h:∀w ∈ ws,w≤L) (i:Nat):ws.getD i 0≤L:=dY.at_ (b:=L) h i
theorem nJ {ws:List Nat} {L v:Nat} (h:∀w ∈ ws,w≤L) (hv:L<v):ws.count v=0:=List.count_eq_zero.2 fun hm=>by have:=h v hm;omega
theorem Ed {cs:List Int} (h:bx 5 cs) {u:Nat} (hu:u<32):((eE 5 cs).getD u (0,0,0)).1<cs.length∧((eE 5 cs).getD u (0,0,0)).2.1≤5∧((eE 5 cs).getD u (0,0,0)).2.2+2^((eE 5 cs).getD u (0,0,0)).2.1≤32:=by
  obtain⟨s,k,e,_,h3,_,h1,h2,h4,h5,h6,h7⟩:=nH h (u:=u) hu;rw[e];exact⟨h3,h5,h7⟩
theorem lk.tK {T:List Cell} {text A:List Nat} (h:lk 5 T text A) (i:Nat):A.getD i 0<32:=by
  rcases Nat.lt_or_ge i A.length with hi|hi
  · exact h.lt (A.getD i 0) (by simp[List.getD_eq_getElem?_getD,hi])
  · grind
def kF (ws ys:List Nat):Prop:=(ws.length≤128∧ys=[127+ws.length]++nib ws)∨(∃cs b,fM 5 cs ws b∧b.length≤127∧ys=[b.length]++b)
theorem cG.akf {cs:List Int} {E:List Nat} (h:cG 32 cs E):5≤E.length:=by
  obtain⟨n,t,b,hE,_⟩:=h.inv Om;have:=ll (dk:=32+1) (v:=(n+1).toNat);have h7:aq (32+1)=6:=Od;grind
theorem iL.two {T:List Cell} {ws ys:List Nat} (h:iL 5 T ws ys):2≤ys.length:=by
  obtain⟨A,h1,_,h2,h3,h4⟩:=h.ex;omega
theorem fM.acy {cs:List Int} {ws b:List Nat} (h:fM 5 cs ws b):4≤b.length:=by
  obtain⟨E,hD,hL,h1,h2,hp⟩:=h.read;have a:=hp.two;grind [cG.akf]
theorem kF.at_ {ws ys xs:List Nat} {ki li x0:Nat} (h:kF ws ys) (h1:1≤ws.length) (VY:ys.length=li) (Ee:∀i,i<li→xs.getD (ki+i) 0=ys.getD i 0) (J0:xs.getD ki 0=x0):
    2≤li∧((ws.length≤128∧x0=127+ws.length∧li=1+(ws.length+1)/2∧∀i,i<(ws.length+1)/2→xs.getD (ki+1+i) 0=(nib ws).getD i 0)∨
      (∃cs b,fM 5 cs ws b∧b.length=x0∧x0≤127∧li=1+x0∧(∀i,i<x0→xs.getD (ki+1+i) 0=b.getD i 0)∧ys=[b.length]++b)):=by
  rcases h with ⟨h2,h3⟩|⟨cs,b,h4,h5,h6⟩
  · have hn:(nib ws).length=(ws.length+1)/2:=rU ws;have Xu:li=1+(ws.length+1)/2:=by rw[←VY,h3,List.length_append,hn];rfl
    refine⟨Om,.inl ⟨h2,?_,Xu,fun i hi=>?_⟩⟩
    · have:=Ee 0 Om;grind
    · rw[Nat.add_assoc,Ee _ Om,h3,rZ Oi,show 1+i-[127+ws.length].length=i by simp]
  · have MG:=h4.acy;have Xu:li=1+b.length:=by rw[←VY,h6,List.length_append];rfl
    have hx:x0=b.length:=by
      have:=Ee 0 Om;grind
    refine⟨Om,.inr ⟨cs,b,h4,hx.symm,Om,Om,fun i hi=>?_,h6⟩⟩;rw[Nat.add_assoc,Ee _ Om,h6,rZ Oi,show 1+i-[b.length].length=i by simp]
def khL (m:Nat):List Nat→Nat
  |[]=>0
  |x::xs=>(if m≤x then 2^(11-x) else 0)+khL m xs
def klL (m:Nat):List Nat→Nat
  |[]=>0
  |x::xs=>(if x=0 then 0 else if x<m then 2^(11-x) else 0)+klL m xs
theorem x9 {m:Nat} (hm:1≤m):∀ls:List Nat,gy ls=khL m ls+klL m ls
  |[]=>rfl
  |x::xs=>by
    simp only[gy,khL,klL,x9 hm xs];grind
theorem x' (m:Nat):∀ls:List Nat,khL m ls=khL (m+1) ls+ls.count m*2^(11-m)
  |[]=>by simp[khL]
  |x::xs=>by
    simp only[khL,x' m xs,List.count_cons];grind
theorem BN {m:Nat} (hm:m≤12):∀ls:List Nat,2^(12-m)∣klL m ls
  |[]=>by simp[klL]
  |x::xs=>by
    simp only[klL];refine Nat.dvd_add ?_ (BN hm xs);split
    · simp_all
    · split
      · exact Nat.pow_dvd_pow 2 Om
      · simp_all
theorem Xv {ls:List Nat} (h:dY ls 11):khL 12 ls=0:=by
  induction ls with
  |nil=>rfl
  |cons x xs ih=>
    have:=h x List.mem_cons_self;simp only[khL];rw[if_neg Om,ih fun y hy=>h y (List.mem_cons_of_mem _ hy)]
theorem gL.even {ls:List Nat} (h:gL ls):ib ls:=by
  obtain⟨h1,h2,h3,h4⟩:=h;have key:∀d,d≤10→(CZ ls (11-d)+ls.count (11-d))*2^d=khL (11-d) ls∧(CZ ls (11-d)+ls.count (11-d))%2=0:=by
    intro d;have fin:d≤10→(CZ ls (11-d)+ls.count (11-d))*2^d=khL (11-d) ls→(CZ ls (11-d)+ls.count (11-d))%2=0:=fun hd e=>by
      have k1:=x9 (m:=11-d) Om ls;have k2:=BN (m:=11-d) Om ls;rw[show 12-(11-d)=d+1 by omega] at k2;have k3:2^(d+1)∣gy ls:=by rw[h3];exact Nat.pow_dvd_pow 2 (show d+1≤11 by omega)
      rw[k1] at k3;have k4:=(Nat.dvd_add_left k2).1 k3;rw[←e,Nat.pow_succ,Nat.mul_comm (2^d) 2] at k4;have k5:=Nat.dvd_of_mul_dvd_mul_right (Nat.two_pow_pos d) k4;omega
    induction d with
    |zero=>
      grind [CZ,khL,x',Xv,wW]
    |succ d ih=>
      intro hd;have akg:d≤10→(CZ ls (11-d)+ls.count (11-d))*2^d=khL (11-d) ls→(CZ ls (11-d)+ls.count (11-d))%2=0:=fun hd e=>by
        have k1:=x9 (m:=11-d) Om ls;have k2:=BN (m:=11-d) Om ls;rw[show 12-(11-d)=d+1 by omega] at k2;have k3:2^(d+1)∣gy ls:=by rw[h3];exact Nat.pow_dvd_pow 2 (show d+1≤11 by omega)
        rw[k1] at k3;have k4:=(Nat.dvd_add_left k2).1 k3;rw[←e,Nat.pow_succ,Nat.mul_comm (2^d) 2] at k4;have k5:=Nat.dvd_of_mul_dvd_mul_right (Nat.two_pow_pos d) k4;omega
      obtain⟨i1,i2⟩:=ih akg Om;have np:=xJ ls (m:=11-d) Om Om;rw[show 11-d-1=11-(d+1) by omega] at np;have st:=x' (11-(d+1)) ls;rw[show 11-(d+1)+1=11-d by omega,show 11-(11-(d+1))=d+1 by omega] at st;have e2:CZ ls (11-(d+1))*2^(d+1)=khL (11-d) ls:=by
        rw[←i1,np,Nat.pow_succ,Nat.mul_comm (2^d) 2, ←Nat.mul_assoc];congr 1;omega
      grind
  intro m m1 m2;have:=(key (11-m) Om).2;grind
def BR.tL (s:BR) (n:Nat):Nat:=if n=0 then 0 else s.mC n
theorem BR.Pk {s:BR} (h:s.rd<256):s.fp 0=s:=by
  unfold BR.fp;rw[Nat.add_zero,Nat.mod_eq_of_lt h]
structure BO (T:List Cell):Prop where
  len:T.length=32
  cell:∀u,u<32→(T.getD u (0,0,0)).2.1≤5∧(T.getD u (0,0,0)).2.2+2^(T.getD u (0,0,0)).2.1≤32∧(T.getD u (0,0,0)).1<256
theorem BO.of {cs:List Int} (hC:bx 5 cs):BO (eE 5 cs):=by
  refine⟨rq,fun u hu=>?_⟩;obtain⟨h1,h2,h3⟩:=Ed hC hu;have:=hC.len;omega
def Ef (T:List Cell):Prop:=∀u,u<32→1≤(T.getD u (0,0,0)).2.1
theorem Ef.of {cs:List Int} (hC:bx 5 cs) (h:∀i,(a4 cs).getD i 0<16):Ef (eE 5 cs):=fun u hu=>by
  obtain⟨s,k,e,hs,hl,hk,h1,h2,h3,h4,h5,h6⟩:=nH hC (u:=u) hu;have hn:=h s;have:=Ol (log:=5) h1 h3 Om;rw[e];exact this
section
variable {xs text A:List Nat} {k len i:Nat} {T:List Cell} {s:BR}
theorem kN.vW (h:kN xs k len T A i s) (hT:lk 5 T text A) (hp:0<8*s.off+(64-s.rd)):i+2<text.length:=by
  refine Classical.byContradiction fun hn=>?_
  have h1:=(rT (T:=T) (at_:=A) (i:=i) (by rw[hT.len];omega)).1;have h2:=h.pos.n;omega
theorem kN.akh (h:kN xs k len T A i s) (hT:lk 5 T text A) (hE:∀i,i<text.length→text.length≤i+2→1≤(T.getD (A.getD i 0) (0,0,0)).2.1) (hi:i<text.length):((64≤s.rd∧s.off=0)∧0<(T.getD (A.getD i 0) (0,0,0)).2.1)↔text.length≤i+2:=by
  have h2:=h.pos.n;have h3:=h.pos.rd;constructor
  · intro ⟨⟨h4,h5⟩,h7⟩;refine Classical.byContradiction fun hn=>?_
    have e:=(tm (T:=T) (at_:=A) (i:=i) (by rw[hT.len];omega)).1;omega
  · intro h4;have h1:=(rT (T:=T) (at_:=A) (i:=i) (by rw[hT.len];exact h4)).1;grind
theorem kN.AD (h:kN xs k len T A i s) (hT:lk 5 T text A) (hO:BO T) (hb:Bytes xs) (hi:i+2<text.length) (hr:s.rd+5≤64∨s.off=0):
    s.rd+(T.getD (A.getD i 0) (0,0,0)).2.1≤64∧(T.getD (A.getD i 0) (0,0,0)).2.2+s.tL (T.getD (A.getD i 0) (0,0,0)).2.1=A.getD (i+2) 0∧kN xs k len T A (i+1) (s.fp (T.getD (A.getD i 0) (0,0,0)).2.1)∧(s.fp (T.getD (A.getD i 0) (0,0,0)).2.1).rd≤s.rd+5:=by
  have hc:=hO.cell _ (hT.tK i);have kL:=h.pos.rd;by_cases h0:(T.getD (A.getD i 0) (0,0,0)).2.1=0
  · obtain⟨e1,e2⟩:=tm (T:=T) (at_:=A) (i:=i) (by rw[hT.len];exact hi);have hs:=hT.step i hi;rw[h0] at e1 hs ⊢;rw[Nat.zero_add] at e1;rw[Nat.pow_zero] at hs;rw[show A.getD (i+2) 0-(T.getD (A.getD i 0) (0,0,0)).2.2=0 by omega,Nat.zero_mul,Nat.zero_add] at e2;have hp:=h.pos;rw[e1,e2] at hp;rw[BR.Pk Om];exact⟨Om,by unfold BR.tL;rw[if_pos rfl];omega,⟨hp⟩,Om⟩
  · obtain⟨h1,h2,h3⟩:=h.bits hT hb hi Om Om (hr.imp Om id);exact⟨h1,by unfold BR.tL;rw[if_neg h0];exact h2,h3,by show(s.rd+_)%256≤_;omega⟩
end
theorem kN.acz {xs text A:List Nat} {k len:Nat} {T:List Cell} (hT:lk 5 T text A) (hb:Bytes xs) (hl:len=(2*5+fN T A)/8+1) (hv:tailV xs k len=2^(2*5+fN T A)+((A.getD 0 0*2^5+A.getD 1 0)*2^fN T A+fR T A)):
    0<xs.getD (k+(len-1)) 0∧(BR.gx xs k len).rd<64∧(BR.gx xs k len).OK len∧(BR.gx xs k len).mC 5=A.getD 0 0∧((BR.gx xs k len).fp 5).rd<64∧((BR.gx xs k len).fp 5).OK len∧((BR.gx xs k len).fp 5).mC 5=A.getD 1 0∧kN xs k len T A 0 (((BR.gx xs k len).fp 5).fp 5):=by
  have hR:=Aw hT;have h0:=hT.tK 0;have h1:=hT.tK 1;have hf:fR T A<2^fN T A:=by have:=lk.lt_ hT _ 0 rfl;rwa [List.drop_zero] at this
  have hP:ia xs k len (BR.gx xs k len) (2*5+fN T A) ((A.getD 0 0*2^5+A.getD 1 0)*2^fN T A+fR T A)∧0<xs.getD (k+(len-1)) 0∧(BR.gx xs k len).rd+10≤64:=by
    rcases ia.tk hb hl hR hv with ⟨a,b,c⟩|⟨a,b,c⟩
    · grind
    · have:=a.n;grind
  obtain⟨wZ,hx,kL⟩:=hP;generalize BR.gx xs k len=s at*;have pos:0<2^fN T A:=Nat.pow_pos Om;have p6:(2:Nat)^(5+fN T A)=2^5*2^fN T A:=Nat.pow_add _ _ _;generalize hn:fN T A=n at*;generalize A.getD 0 0=a at*;generalize A.getD 1 0=c at*;generalize hr:fR T A=r at*;obtain⟨rW,_⟩:=wZ.bits hb (m:=5) Om Om Om;have Bm:=wZ.skip hb (m:=5) Om;have Xw:(s.fp 5).rd=s.rd+5:=by show(s.rd+5)%256=_;omega
  rw[show 2*5+n-5=5+n by omega] at rW Bm;have e0:(a*2^5+c)*2^n+r=a*2^(5+n)+(c*2^n+r):=by rw[p6,Nat.add_mul,Nat.mul_assoc];omega
  have eV:c*2^n+r<2^(5+n):=by
    have:(c+1)*2^n≤2^5*2^n:=Nat.mul_le_mul_right _ Om;grind
  have p6':0<2^(5+n):=Nat.pow_pos Om;rw[e0,Nat.add_comm (_*_),Nat.add_mul_div_right _ _ p6',Nat.div_eq_of_lt eV,Nat.zero_add] at rW;rw[e0,Nat.add_comm (_*_),Nat.add_mul_mod_self_right,Nat.mod_eq_of_lt eV] at Bm;obtain⟨n9,_⟩:=Bm.bits hb (m:=5) Om Om Om;have Ge:=Bm.skip hb (m:=5) Om;rw[show 5+n-5=n by omega] at n9 Ge;rw[Nat.add_comm (_*_),Nat.add_mul_div_right _ _ pos,Nat.div_eq_of_lt hf,Nat.zero_add] at n9;rw[Nat.add_comm (_*_),Nat.add_mul_mod_self_right,Nat.mod_eq_of_lt hf] at Ge;exact⟨hx,Om,wZ.ok,rW,Om,Bm.ok,n9,⟨by rw[List.drop_zero,hn,hr];exact Ge⟩⟩
theorem jv (P:List Int):(a4 P).length=P.length:=by simp[a4]
theorem Eg {P:List Int} {j:Nat} (h:P.length≤j):(a4 P).getD j 0=0:=by
  grind [jv]
theorem zD {P:List Int} {i:Nat}:(a4 P).getD i 0=(P.getD i 0).natAbs:=iU rfl _ _
theorem acA {P:List Int} {i:Nat} {zb:Bool} (h:P.length≤i) (hz:zb=false→∀j,j<i→(a4 P).getD j 0<16):zb=false→∀j,(a4 P).getD j 0<16:=fun h9 j=>by
  grind [Eg]
theorem Pm (n:Nat):n&&&31=n%32:=Nat.and_two_pow_sub_one_eq_mod n 5
theorem zE (C:List Nat) (u s:Nat):(C.take u).count s≤u:=Nat.le_trans List.count_le_length (by rw[List.length_take];omega)
theorem vf {xs:List Int} {i:Nat} {v:Int} (h:i<xs.length):(xs.set i v).take (i+1)=xs.take i++[v]:=by
  rw[List.take_succ_eq_append_getElem (by rw[List.length_set];exact h),List.getElem_set_self,List.take_set];congr 1;exact List.set_eq_of_length_le (by rw[List.length_take];omega)
def yb (pz:Bool) (left:Nat) (cr:List Int) (er:List Nat):Prop:=(pz=false∧cG left cr er)∨(pz=true∧0<left∧∃z c t b,er=zerosB z++b∧cr=List.replicate z 0++c::t∧cG left (c::t) b)
theorem yb.next {left:Nat} {n:Int} {t:List Int} {b:List Nat} {l':Nat} (h0:0<left) (h:(n≠0∧cG (left-n.natAbs) t b)∨(n=0∧∃z c t2 b2,b=zerosB z++b2∧t=List.replicate z 0++c::t2∧cG left (c::t2) b2)) (hl:l'=left-n.natAbs):yb (decide (n=((0:Nat):Int))) l' t b:=by
  subst hl;rcases h with ⟨h1,h2⟩|⟨h1,h2⟩
  · exact .inl ⟨decide_eq_false Om,h2⟩
  · subst h1;exact .inr ⟨rfl,by simpa using h0,by simpa using h2⟩
theorem yb.acp {pz:Bool} {left:Nat} {cr:List Int} {er:List Nat} (h:yb pz left cr er) (h0:left=0):er=[]∧cr=[]:=by
  rcases h with ⟨_,h2⟩|⟨_,h2,_⟩
  · exact h2.acp h0
  · omega
theorem bx.two {log:Nat} {cs:List Int} (h:bx log cs):2≤cs.length:=by
  match cs,h with
  |[],h=>have:=h.sum;have h2:=h.size;simp[a4] at this;omega
  |[x],h=>
    have h1:=h.sum;have h2:=h.GH x.natAbs (by simp[a4]);grind [a4]
  |x::y::t,_=>simp
theorem fM.text {cs:List Int} {ws ys:List Nat} {p:Nat} (Xx:iL 5 (eE 5 cs) ws (ys.drop p)) {xs:List Nat} {ki li:Nat} (VY:ys.length=li) (Ee:∀i,i<li→xs.getD (ki+i) 0=ys.getD i 0):
    ∃A,lk 5 (eE 5 cs) ws A∧(∀i,i<ws.length→ws.length≤i+2→1≤((eE 5 cs).getD (A.getD i 0) (0,0,0)).2.1)∧li-p=(2*5+fN (eE 5 cs) A)/8+1∧tailV xs (ki+p) (li-p)=2^(2*5+fN (eE 5 cs) A)+((A.getD 0 0*2^5+A.getD 1 0)*2^fN (eE 5 cs) A+fR (eE 5 cs) A):=by
  obtain⟨A,h1,h5,h2,h3,h4⟩:=Xx.ex;grind [iS]
theorem fM.first {cs:List Int} {ws b:List Nat} (h:fM 5 cs ws b):b.getD 0 0%16=0:=by
  have hl:=h.acy;obtain⟨E,hD,hL,_⟩:=h.read;have h1:=(hL.take h.bytes).1;have h2:=(hL.take h.bytes).2.2;rw[xI h.bytes (m:=b.length) 4 h2,Nat.pow_zero,Nat.div_one] at h1;have h3:=xH h.bytes (j:=0) (n:=b.length) Om;omega
structure mM (P:List Nat) (C nb n V:Nat):Prop where
  by_:Bytes P
  lt:C<2^nb
  small:nb≤63
  len:8*P.length+nb=n
  val:tailV P 0 P.length+C*2^(8*P.length)=V
theorem kS (P:List Nat):∀(Q:List Nat) (k:Nat),k≤Q.length→tailV (P++Q) 0 (P.length+k)=tailV P 0 P.length+tailV Q 0 k*2^(8*P.length)
  |Q,0,_=>by
    grind [tailV,iS]
  |Q,k+1,h=>by
    have ih:=kS P Q k Om;rw[←Nat.add_assoc];simp only[tailV,ih,Nat.zero_add];have e:(P++Q).getD (P.length+k) 0=Q.getD k 0:=by
      grind
    grind
def bR (C k:Nat):List Nat:=(List.range k).map fun i=>C/2^(8*i)%256
theorem dE (C k:Nat):(bR C k).length=k:=by simp[bR]
theorem G0 {C k i:Nat} (h:i<k):(bR C k).getD i 0=C/2^(8*i)%256:=by simp[bR,List.getD_eq_getElem?_getD,h]
theorem tM (C k:Nat):Bytes (bR C k):=fun x hx=>by
  obtain⟨i,_,rfl⟩:=List.mem_map.1 hx;omega
theorem vX (C k:Nat):bR C (k+1)=bR C k++[C/2^(8*k)%256]:=by simp[bR,List.range_succ]
theorem po (C k:Nat):∀j,j≤k→tailV (bR C k) 0 j=C%2^(8*j)
  |0,_=>by simp[tailV,Nat.mod_one]
  |j+1,h=>by
    simp only[tailV,Nat.zero_add];rw[po C k j Om,G0 Om,Nat.mul_add,Nat.pow_add,Nat.mod_mul];grind
section
variable {P:List Nat} {C nb n V:Nat}
theorem mM.begin {P:List Nat} {n:Nat} (h:P=[]) (hn:n=0):mM P 0 0 n 0:=by
  subst h;subst hn;exact⟨(fun x hx=>by cases hx),Od,Od,rfl,rfl⟩
theorem mM.add (h:mM P C nb n V) {x b:Nat} (hx:x<2^b) (hb:nb+b≤63):mM P (C+x*2^nb) (nb+b) (n+b) (V+x*2^n):=by
  refine⟨h.by_,?_,hb,by have:=h.len;omega,?_⟩
  · have h1:=h.lt;have h2:(x+1)*2^nb≤2^b*2^nb:=Nat.mul_le_mul_right _ hx;grind
  · rw[Nat.add_mul, ←Nat.add_assoc,h.val,Nat.mul_assoc, ←Nat.pow_add,show nb+8*P.length=n by have:=h.len;omega]
theorem mM.flush (h:mM P C nb n V) {k:Nat} (hk:8*k≤nb):mM (P++bR C k) (C/2^(8*k)) (nb-8*k) n V:=by
  have hl:(P++bR C k).length=P.length+k:=by rw[List.length_append,dE]
  refine⟨fun x hx=>(List.mem_append.1 hx).elim (h.by_ x) (tM C k x),?_,by have:=h.small;omega,by rw[hl];have:=h.len;omega,?_⟩
  · have h1:=h.lt;rw[Nat.div_lt_iff_lt_mul (Nat.two_pow_pos _), ←Nat.pow_add,show nb-8*k+8*k=nb by omega];exact h1
  · rw[hl,kS P _ k (by rw[dE];exact Nat.le_refl _),po C k k (Nat.le_refl _), ←h.val,Nat.mul_add,Nat.pow_add,Nat.mul_comm (2^(8*P.length)), ←Nat.mul_assoc,Nat.add_assoc, ←Nat.add_mul];congr 2;have:=Nat.mod_add_div C (2^(8*k));grind
theorem mM.align (h:mM P C nb n V) {k:Nat} (hk:k=(nb+7)/8):Bytes (P++bR C k)∧(P++bR C k).length=(n+7)/8∧tailV (P++bR C k) 0 ((n+7)/8)=V:=by
  have hn:=h.len;have hl:(P++bR C k).length=P.length+k:=by rw[List.length_append,dE]
  have uA:P.length+k=(n+7)/8:=Om;refine⟨fun x hx=>(List.mem_append.1 hx).elim (h.by_ x) (tM C k x),Om,?_⟩;rw[←uA,kS P _ k (by rw[dE];exact Nat.le_refl _),po C k k (Nat.le_refl _)];have h1:=h.lt;have h2:2^nb≤2^(8*k):=Nat.pow_le_pow_right Om Om;rw[Nat.mod_eq_of_lt Om,h.val]
end
theorem Xy (C:Nat):[C%256]=bR C 1:=by simp[bR]
theorem Ke (C:Nat):[C%256,C/2^8%256]=bR C 2:=by simp[bR,List.range_succ]
theorem Xz (C:Nat):[C%256,C/2^8%256,C/2^16%256]=bR C 3:=by simp[bR,List.range_succ]
theorem Kf (C:Nat):[C%256,C/2^8%256,C/2^16%256,C/2^24%256]=bR C 4:=by simp[bR,List.range_succ]
theorem j8 {C x nb:Nat} (h:C<2^nb):C|||x*2^nb=C+x*2^nb:=by rw[eJ h,Nat.add_comm]
theorem BP:Array.range 4= #[0,1,2,3]:=by decide
def fZ:List Nat:=[0,1,3,7,15,31,63,127,255,511,1023,2047,4095,8191,16383,32767,65535,65535,65535,65535,65535,65535,65535,65535,65535,65535,0,0,0,0,0,0]
theorem Pn {v b:Nat} (h:b≤16):v&&&fZ.getD b 0=v%2^b:=by
  have e:fZ.getD b 0=2^b-1:=by
    have:∀b,b<17→fZ.getD b 0=2^b-1:=Od;grind
  simp_all
theorem XA {v b:Nat} (h1:1≤b) (h:b≤16):v*2^(16-b)%65536/2^(16-b)=v%2^b:=by
  have e:65536=2^b*2^(16-b):=by rw[←Nat.pow_add,show b+(16-b)=16 by omega]
  rw[e,Nat.mul_mod_mul_right,Nat.mul_div_cancel _ (Nat.two_pow_pos _)]
theorem Kg (b:Nat):fZ.getD b 0<65536:=by
  rcases Nat.lt_or_ge b 32 with h|h
  · have:∀b,b<32→fZ.getD b 0<65536:=Od;exact this b h
  · simp_all [fZ]
theorem mM.acB {P:List Nat} {C nb n V:Nat} (h:mM P C nb n V):mM P (C/2^(8*0)) (nb-8*0) n V:=by simpa using h
theorem vg {L n:Nat} (hL:L≤6):oB L n≤393216:=by
  grind [oB,aq]
theorem nK {x b nb:Nat} (h:x<2^b) (hb:nb+b≤63):x*2^nb<9223372036854775808:=by
  have h1:x*2^nb<2^b*2^nb:=Nat.mul_lt_mul_of_pos_right h (Nat.two_pow_pos _);rw[←Nat.pow_add] at h1;have h2:2^(b+nb)≤2^63:=Nat.pow_le_pow_right Om Om;omega
theorem jw {C nb:Nat} (h:C<2^nb) (hb:nb≤63):C<9223372036854775808:=by
  have h2:2^nb≤2^63:=Nat.pow_le_pow_right Om hb;omega
structure jb (L:Nat) (Cc ns S:List Nat) (TT:List (Int × Nat)):Prop where
  laid:iV L Cc ns
  lg:L=5∨L=6
  st:∀s j,j<ns.getD s 0→S.getD (dL ns s+j) 0=2^L+occC Cc s j
  tt:∀s,1≤ns.getD s 0→TT.getD s (0,0)=(((dL ns s:Nat):Int)-((ns.getD s 0:Nat):Int),oB L (ns.getD s 0))
  G1:TT.length=256
  sl:S.length=2^L
  sum:ns.sum=2^L
def wA (L:Nat) (Cc ns X:List Nat) (N i:Nat):Nat:=(encA L Cc ns (X.take N)).getD i 0
def ky (L:Nat) (Cc ns X:List Nat) (N k V0:Nat) (P:List Nat) (C nb i:Nat):Prop:=
  mM P C nb (8*k+fN (buildD L Cc ns) ((encA L Cc ns (X.take N)).drop i)) (V0+fR (buildD L Cc ns) ((encA L Cc ns (X.take N)).drop i)*2^(8*k))
section
variable {L:Nat} {Cc ns S X:List Nat} {TT:List (Int × Nat)} {N i k V0:Nat}
theorem tO {X:List Nat} {N i:Nat} (h:i<N):(X.take N).getD i 0=X.getD i 0:=by simp[List.getD_eq_getElem?_getD,List.getElem?_take,h]
theorem jb.oL (h:jb L Cc ns S TT) (s:Nat):dL ns s+ns.getD s 0≤2^L:=by
  rw[←h.sum, ←eh];exact kP
theorem jb.some (h:jb L Cc ns S TT) (hN:N≤X.length) (hs:∀s ∈ X.take N,1≤ns.getD s 0) (hi:i<N):1≤ns.getD (X.getD i 0) 0∧ns.getD (X.getD i 0) 0<2^L:=by
  refine⟨hs _ ?_,h.laid.le _⟩;rw[←tO hi];grind
theorem jb.wlt (h:jb L Cc ns S TT) (hs:∀s ∈ X.take N,1≤ns.getD s 0) (i:Nat):wA L Cc ns X N i<2^L:=h.laid.BA hs i
theorem jb.first (h:jb L Cc ns S TT) (hN:N≤X.length) (hs:∀s ∈ X.take N,1≤ns.getD s 0) (hi:i<N) (h2:N≤i+2):S.getD (dL ns (X.getD i 0)) 0=wA L Cc ns X N i+2^L:=by
  have hl:(X.take N).length=N:=by rw[List.length_take];omega
  have h1:=(h.some hN hs hi).1;have h3:=h.st (X.getD i 0) 0 Om;grind [wA,u9,tO]
theorem jb.next (h:jb L Cc ns S TT) (hN:N≤X.length) (hs:∀s ∈ X.take N,1≤ns.getD s 0) (hi:i+2<N):
    S.getD (dL ns (X.getD i 0)+((wA L Cc ns X N (i+2)+2^L)/2^bg L (ns.getD (X.getD i 0) 0) (wA L Cc ns X N (i+2)+2^L)-ns.getD (X.getD i 0) 0)) 0=wA L Cc ns X N i+2^L:=by
  have hl:(X.take N).length=N:=by rw[List.length_take];omega
  obtain⟨h1,h2⟩:=h.some hN hs (i:=i) Om;have hw:=h.wlt hs (i+2);obtain⟨e1,e2,e3⟩:=lq h1 (Nat.le_of_lt h2) (c:=wA L Cc ns X N (i+2)+2^L) ⟨Om,by rw[Nat.pow_succ];omega⟩;rw[h.st _ _ Om];grind [tB,tO,DS,wA]
theorem ky.begin (hN:N≤X.length) {P:List Nat} (hP:Bytes P) (hk:P.length=k) (hV:tailV P 0 k=V0) (hi:N≤i+2):ky L Cc ns X N k V0 P 0 0 i:=by
  subst hk;obtain⟨e1,e2⟩:=rT (T:=buildD L Cc ns) (at_:=encA L Cc ns (X.take N)) (i:=i) (by rw[gb,List.length_take];omega);unfold ky;rw[e1,e2];exact⟨hP,Od,Od,Om,(by rw[hV])⟩
theorem ky.step (h:jb L Cc ns S TT) (hN:N≤X.length) (hs:∀s ∈ X.take N,1≤ns.getD s 0) {P:List Nat} {C nb:Nat} (hw:ky L Cc ns X N k V0 P C nb (i+1)) (hi:i+2<N) (hb:nb≤56):
    ky L Cc ns X N k V0 P (C+(wA L Cc ns X N (i+2)+2^L)%2^bg L (ns.getD (X.getD i 0) 0) (wA L Cc ns X N (i+2)+2^L)*2^nb) (nb+bg L (ns.getD (X.getD i 0) 0) (wA L Cc ns X N (i+2)+2^L)) i:=by
  have hl:(X.take N).length=N:=by rw[List.length_take];omega
  obtain⟨h1,h2⟩:=h.some hN hs (i:=i) Om;have hwl:=h.wlt hs (i+2);obtain⟨e1,e2,e3⟩:=lq h1 (Nat.le_of_lt h2) (c:=wA L Cc ns X N (i+2)+2^L) ⟨Om,by rw[Nat.pow_succ];omega⟩;obtain⟨b1,b2⟩:=h.laid.bits hs (i:=i) Om;rw[tO (show i<N by omega)] at b1 b2;have hlg:=h.lg;unfold ky at hw ⊢;have ha:=hw.add (x:=(wA L Cc ns X N (i+2)+2^L)%2^bg L (ns.getD (X.getD i 0) 0) (wA L Cc ns X N (i+2)+2^L)) (Nat.mod_lt _ (Nat.two_pow_pos _)) Om;grind [mM,bg,wA]
theorem ky.lt {P:List Nat} {C nb:Nat} (h:ky L Cc ns X N k V0 P C nb i):C<2^nb:=mM.lt h
theorem Kh (h:jb L Cc ns S TT) {n c:Nat} (h1:1≤n) (hn:n<2^L) (hc:2^L≤c∧c<2^(L+1)):bg L n c≤6:=by
  have:=(lq h1 (Nat.le_of_lt hn) hc).1;rcases h.lg with rfl|rfl<;>omega
theorem Eh (h:jb L Cc ns S TT) (hN:N≤X.length) (hs:∀s ∈ X.take N,1≤ns.getD s 0):∀d i,N-i=d→fN (buildD L Cc ns) ((encA L Cc ns (X.take N)).drop i)≤6*d
  |0,i,hd=>by
    have:=(rT (T:=buildD L Cc ns) (at_:=encA L Cc ns (X.take N)) (i:=i) (by rw[gb,List.length_take];omega)).1;omega
  |d+1,i,hd=>by
    have hl:(X.take N).length=N:=by rw[List.length_take];omega
    have ih:=Eh h hN hs d (i+1) Om;rcases Nat.lt_or_ge (i+2) N with h2|h2
    · obtain⟨b1,b2⟩:=h.laid.bits hs (i:=i) Om;obtain⟨h3,h4⟩:=h.some hN hs (i:=i) Om;rw[tO (show i<N by omega)] at b1;have hw:=h.wlt hs (i+2);grind [Kh,encA,wA]
    · grind [rT,buildD,encA,gb]
end
def fT (c:Int × Nat):List Value:=[.int .i32 c.1,.int .u32 ((c.2:Nat):Int)]
theorem eO (c:Int × Nat):(fT c).length=2:=rfl
theorem atg (x:Nat):x&&&2=x/2%2*2:=by
  apply Nat.eq_of_testBit_eq;intro i;rw[Nat.testBit_and,show(2:Nat)=2^1 from rfl,Nat.testBit_two_pow,show x/2^1%2^1*2^1=2^1*(x/2^1%2^1) by rw[Nat.mul_comm],Nat.testBit_two_pow_mul,Nat.testBit_mod_two_pow,Nat.testBit_div_two_pow];grind
section
variable {L:Nat} {Cc ns S X:List Nat} {TT:List (Int × Nat)} {N i i1 i2 k V0:Nat}
theorem jb.iM (h:jb L Cc ns S TT) {x:Nat} (hx:1≤ns.getD x 0):Value.agg (fT (TT.getD x (0,0))).toArray=Value.agg #[.int .i32 (((dL ns x:Nat):Int)-((ns.getD x 0:Nat):Int)),.int .u32 ((oB L (ns.getD x 0):Nat):Int)]:=by
  rw[h.tt x hx];rfl
theorem jb.pq (h:jb L Cc ns S TT) (hN:N≤X.length) (hs:∀s ∈ X.take N,1≤ns.getD s 0) (hi:i2<N) (h2:i2=i+2):
    S.getD (dL ns (X.getD i 0)+((wA L Cc ns X N i2+2^L)/2^bg L (ns.getD (X.getD i 0) 0) (wA L Cc ns X N i2+2^L)-ns.getD (X.getD i 0) 0)) 0=wA L Cc ns X N i+2^L:=by
  subst h2;exact h.next hN hs hi
theorem ky.pr (h:jb L Cc ns S TT) (hN:N≤X.length) (hs:∀s ∈ X.take N,1≤ns.getD s 0) {P:List Nat} {C nb:Nat} (hw:ky L Cc ns X N k V0 P C nb i1) (hi:i2<N) (h1:i1=i+1) (h2:i2=i+2) (hb:nb≤56):
    ky L Cc ns X N k V0 P (C+(wA L Cc ns X N i2+2^L)%2^bg L (ns.getD (X.getD i 0) 0) (wA L Cc ns X N i2+2^L)*2^nb) (nb+bg L (ns.getD (X.getD i 0) 0) (wA L Cc ns X N i2+2^L)) i:=by
  subst h1;subst h2;exact hw.step h hN hs hi hb
theorem jb.oa (h:jb L Cc ns S TT) (hs:∀s ∈ X.take N,1≤ns.getD s 0) (i:Nat):2^L≤wA L Cc ns X N i+2^L∧wA L Cc ns X N i+2^L<2^(L+1):=by
  have:=h.wlt (X:=X) (N:=N) hs i;omega
theorem jb.aki (h:jb L Cc ns S TT) (hs:∀s ∈ X.take N,1≤ns.getD s 0) (i:Nat):wA L Cc ns X N i+2^L<65536:=by
  have:=h.wlt (X:=X) (N:=N) hs i;rcases h.lg with rfl|rfl<;>omega
theorem ky.small (h:jb L Cc ns S TT) (hN:N≤X.length) (hs:∀s ∈ X.take N,1≤ns.getD s 0) (hk:k≤1000) (Ei:N≤255) (i:Nat):8*k+fN (buildD L Cc ns) ((encA L Cc ns (X.take N)).drop i)≤10000:=by
  have:=Eh h hN hs (N-i) i rfl;omega
theorem ky.Po (h:jb L Cc ns S TT) (hN:N≤X.length) (hs:∀s ∈ X.take N,1≤ns.getD s 0) (hi:i<N) (j:Nat):bg L (ns.getD (X.getD i 0) 0) (wA L Cc ns X N j+2^L)≤6:=by
  obtain⟨h1,h2⟩:=h.some hN hs hi;exact Kh h h1 h2 (h.oa hs j)
theorem ky.fin (h:jb L Cc ns S TT) (hs:∀s ∈ X.take N,1≤ns.getD s 0) {P:List Nat} {m n V:Nat} (hi0:i=0) (hi1:i1=i+1)
    (hn:n=8*k+fN (buildD L Cc ns) ((encA L Cc ns (X.take N)).drop i)+L+L) (hV:V=V0+fR (buildD L Cc ns) ((encA L Cc ns (X.take N)).drop i)*2^(8*k)+(wA L Cc ns X N i1+2^L)%2^L*2^(8*k+fN (buildD L Cc ns) ((encA L Cc ns (X.take N)).drop i))+(wA L Cc ns X N i+2^L)%2^L*2^(8*k+fN (buildD L Cc ns) ((encA L Cc ns (X.take N)).drop i)+L))
    (hm:m=(n+1+7)/8) (ht:tailV P 0 m=2^n+V):
    m=k+(2*L+fN (buildD L Cc ns) (encA L Cc ns (X.take N)))/8+1∧tailV P 0 m=V0+2^(8*k)*(2^(2*L+fN (buildD L Cc ns) (encA L Cc ns (X.take N)))+(((encA L Cc ns (X.take N)).getD 0 0*2^L+(encA L Cc ns (X.take N)).getD 1 0)*2^fN (buildD L Cc ns) (encA L Cc ns (X.take N))+fR (buildD L Cc ns) (encA L Cc ns (X.take N)))):=by
  subst hi0;subst hi1;rw[List.drop_zero] at hn hV;have e0:(wA L Cc ns X N 0+2^L)%2^L=(encA L Cc ns (X.take N)).getD 0 0:=by rw[Nat.add_mod_right];exact Nat.mod_eq_of_lt (h.wlt hs 0)
  have e1:(wA L Cc ns X N (0+1)+2^L)%2^L=(encA L Cc ns (X.take N)).getD 1 0:=by rw[Nat.add_mod_right];exact Nat.mod_eq_of_lt (h.wlt hs _)
  grind
end
def Lz (L sz:Nat):Prop:=(L=5∧sz=32)∨(L=6∧sz=64)
section
variable {L sz:Nat}
theorem Lz.pow (h:Lz L sz):sz=2^L:=by rcases h with ⟨rfl,rfl⟩|⟨rfl,rfl⟩<;>rfl
theorem Lz.shl (h:Lz L sz):1*2^L%4294967296=sz:=by rcases h with ⟨rfl,rfl⟩|⟨rfl,rfl⟩<;>rfl
theorem Lz.acC (h:Lz L sz) (x:Nat):x&&&(sz-1)=x%sz:=by
  rcases h with ⟨rfl,rfl⟩|⟨rfl,rfl⟩
  · exact Nat.and_two_pow_sub_one_eq_mod x 5
  · exact Nat.and_two_pow_sub_one_eq_mod x 6
theorem Lz.half (h:Lz L sz):1*2^(L-1)≤32:=by rcases h with ⟨rfl,rfl⟩|⟨rfl,rfl⟩<;>decide
theorem Lz.one (h:Lz L sz):1*2^L≤64∧1*2^L=sz:=by rcases h with ⟨rfl,rfl⟩|⟨rfl,rfl⟩<;>decide
theorem Lz.step (h:Lz L sz):fS sz≤43∧sz/2^1+sz/2^3+3≤43:=by rcases h with ⟨rfl,rfl⟩|⟨rfl,rfl⟩<;>decide
theorem Lz.ath (h:Lz L sz):L*2^16%4294967296-sz=oB L 1:=by rcases h with ⟨rfl,rfl⟩|⟨rfl,rfl⟩<;>rfl
end
theorem XB (n:Nat):(List.replicate n ([.int .i32 ((0:Nat):Int),.int .u32 ((0:Nat):Int)]:List Value)).flatten=rows fT (List.replicate n (0,0)):=by
  induction n with
  |zero=>rfl
  |succ n ih=>simp only[List.replicate_succ,List.flatten_cons,rows,List.flatMap_cons] at ih ⊢;rw[ih];rfl
theorem tP {ns M:List Nat} {i x:Nat} (h:∀j,j≤i→M.getD j 0=dL ns j) (hi:i+1<M.length) (hx:x=M.getD i 0+ns.getD i 0):∀j,j≤i+1→(M.set (i+1) x).getD j 0=dL ns j:=fun j hj=>by
  grind [aS,eh]
theorem mH.begin {C ns M:List Nat} {n y:Nat} (h:∀j,j≤n→M.getD j 0=dL ns j) (hn:ns.length=n) (hM:n<M.length):mH C ns (M.set n y) 0:=fun s hs=>by
  grind
theorem tC.begin {Z:Nat} {C ns S:List Nat}:tC Z C ns S 0:=fun w hw=>by omega
theorem tC.Pp {Z u c:Nat} {C ns S M:List Nat} (h:tC Z C ns S u) (hC:mH C ns M u) (tA:∀x,C.count x=ns.getD x 0) (hu:u<C.length) (hc:c=C.getD u 0) (hcl:c<ns.length) (hS:M.getD c 0<S.length):tC Z C ns (S.set (M.getD c 0) (Z+u)) (u+1):=by
  subst hc;rw[hC _ hcl] at hS ⊢;exact h.step tA hu hS
theorem mH.Pp {u c:Nat} {C ns M:List Nat} (h:mH C ns M u) (hu:u<C.length) (hc:c=C.getD u 0) (jO:c<ns.length) (hM:ns.length≤M.length):mH C ns (M.set c (M.getD c 0+1)) (u+1):=by
  subst hc;exact h.step hu jO hM
theorem mH.lt {u c:Nat} {C ns M:List Nat} (h:mH C ns M u) (tA:∀x,C.count x=ns.getD x 0) (hu:u<C.length) (hc:c=C.getD u 0) (jO:c<ns.length):M.getD c 0<ns.sum:=by
  subst hc;rw[h _ jO];have h1:=lW tA hu;have h2:=kP (ns:=ns) (s:=C.getD u 0+1);grind [eh]
def yc (L:Nat) (ns:List Nat) (TT:List (Int × Nat)) (i:Nat):Prop:=∀s,s<i→1≤ns.getD s 0→TT.getD s (0,0)=(((dL ns s:Nat):Int)-((ns.getD s 0:Nat):Int),oB L (ns.getD s 0))
section
variable {L i:Nat} {ns:List Nat} {TT:List (Int × Nat)}
theorem yc.begin:yc L ns TT 0:=fun s h=>by omega
theorem yc.skip (h:yc L ns TT i) (h0:ns.getD i 0=0):yc L ns TT (i+1):=fun s hs h1=>by
  rcases Nat.lt_or_eq_of_le (Nat.le_of_lt_succ hs) with h2|h2
  · exact h s h2 h1
  · grind
theorem yc.put (h:yc L ns TT i) (hi:i<TT.length) {x:Nat} {y z:Int} (hx:x=oB L (ns.getD i 0)) (hy:y=((dL ns i:Nat):Int)-((ns.getD i 0:Nat):Int)):yc L ns ((TT.set i (z,x)).set i (y,((TT.set i (z,x)).getD i (0,0)).2)) (i+1):=fun s hs h1=>by
  rw[List.set_set];have e:((TT.set i (z,x)).getD i (0,0)).2=x:=by simp[List.getD_eq_getElem?_getD,hi]
  rw[e];rcases Nat.lt_or_eq_of_le (Nat.le_of_lt_succ hs) with h2|h2
  · have:(TT.set i (y,x)).getD s (0,0)=TT.getD s (0,0):=by simp[List.getD_eq_getElem?_getD,List.getElem?_set,show¬i=s by omega]
    rw[this];exact h s h2 h1
  · grind
end
theorem jb.mk' {L sz:Nat} {P:List Int} {S:List Nat} {TT:List (Int × Nat)} (hC:bx L P) (hL:Lz L sz) (hS:tC sz (cY L P) (a4 P) S sz) (hT:yc L (a4 P) TT P.length) (ht:TT.length=256) (hs:S.length=sz):jb L (cY L P) (a4 P) S TT:=by
  have hl:=hC.laid;have hp:=hL.pow;refine⟨hl,hC.lg,fun s j hj=>?_,fun s h1=>?_,ht,by rw[hs,hp],hC.sum⟩
  · rw[hp, ←hl.len] at hS;have:=hS.get hl.cnt hj;rw[this,hl.len]
  · refine hT s ?_ h1;grind [Eg]
theorem XC {L n:Nat} (hn:n≠1):oB L n=(L-(aq (n-1)-1))*65536-n*2^(L-(aq (n-1)-1)):=by unfold oB;rw[if_neg hn]
theorem acD {L sz:Nat} {P:List Int} (hC:bx L P) (hL:Lz L sz):(a4 P).sum=sz:=by rw[hC.sum,hL.pow]
theorem Ej {L sz:Nat} {P:List Int} (hC:bx L P) (hL:Lz L sz) (s:Nat): -1≤P.getD s 0∧P.getD s 0<sz:=by
  have:=hC.at_ s;rw[hL.pow]
  push_cast
  exact this
theorem eH.cast {α:Type} {size m k j j':Nat} {all G:Nat→α} (e:j=j') (h:eH size m all G k j):eH size m all G k j':=e▸h
def z3:Nat→List Nat
  |0=>[]
  |t+1=>z3 t++eA 3 2
theorem Ki:∀t,eA 3 2++z3 t=z3 t++eA 3 2
  |0=>by simp[z3]
  |t+1=>by rw[z3, ←List.append_assoc,Ki t]
theorem acE {r:Nat} (hr:r<3):zerosB r=eA r 2:=by
  match r,hr with
  |0,_=>rfl
  |1,_=>rfl
  |2,_=>rfl
theorem AE {r:Nat} (hr:r<3):∀t,zerosB (3*t+r)=z3 t++eA r 2
  |0=>by rw[Nat.mul_zero,Nat.zero_add,acE hr];rfl
  |t+1=>by
    rw[show 3*(t+1)+r=(3*t+r)+3 by omega];show eA 3 2++zerosB (3*t+r)=_;rw[AE hr t, ←List.append_assoc,Ki];rfl
theorem mM.acF {P H:List Nat} {C nb x b:Nat} (h:mM P C nb H.length (lowV H)) (hx:x<2^b) (hb:nb+b≤63):mM P (C+x*2^nb) (nb+b) (H++eA x b).length (lowV (H++eA x b)):=by
  have h1:=h.add hx hb;rw[ga,List.length_append,bD,fU,Nat.mod_eq_of_lt hx,Nat.mul_comm (2^H.length)];exact h1
theorem AF {O:List Nat} {op C:Nat} (ho:op+1<O.length):((O.set op (C%256)).set (op+1) (C/2^8%256)).take (op+2)=O.take op++bR C 2:=by
  rw[←Ke];apply List.ext_getElem?;grind
theorem mM.akj {O:List Nat} {op C nb n V:Nat} (h:mM (O.take op) C nb n V) (hb:16≤nb) (ho:op+1<O.length):mM (((O.set op (C%256)).set (op+1) (C/2^8%256)).take (op+2)) (C/2^16) (nb-16) n V:=by
  rw[AF ho];exact h.flush (k:=2) hb
def G2 (L:Nat) (E:List Nat):List Nat:=eA (L-5) 4++E
structure WC (L:Nat) (P:List Int) (O:List Nat) (pz:Bool) (rem i bs bc op:Nat) (E:List Nat):Prop where
  wr:mM (O.take op) bs bc (G2 L E).length (lowV (G2 L E))
  wz:D3 (2^L) P pz (rem-1) i E
  bd:BD L pz rem i (4+E.length)
  r1:1≤rem
  r2:rem+dL (a4 P) i=2^L+1
  pz1:pz=true→2≤rem
  ol:op≤O.length
  il:i≤P.length
structure WM (L:Nat) (P:List Int) (O:List Nat) (rem i bs bc op:Nat) (E:List Nat):Prop where
  wr:mM (O.take op) bs bc (G2 L E).length (lowV (G2 L E))
  wz:D3 (2^L) P false (rem-1) i E
  bd:4+E.length+(if 2^L≤rem then 1 else 0)≤5+(L+1)*i+1
  bz:P.getD i 0=0→BD L false rem i (4+E.length)
  r1:2≤rem
  r2:rem+dL (a4 P) i=2^L+1
  ol:op≤O.length
  il:i<P.length
structure WR (L:Nat) (P:List Int) (O:List Nat) (rem i t bs bc op:Nat) (E:List Nat):Prop where
  wr:mM (O.take op) bs bc (G2 L (E++z3 t)).length (lowV (G2 L (E++z3 t)))
  wz:D3 (2^L) P true (rem-1) i E
  bd:BD L true rem i (4+E.length)
  r1:2≤rem
  r2:rem+dL (a4 P) i=2^L+1
  ol:op≤O.length
theorem Kj (L:Nat) (E:List Nat):(G2 L E).length=4+E.length:=by unfold G2;rw[List.length_append,bD]
theorem BQ (L:Nat) (E F:List Nat):G2 L (E++F)=G2 L E++F:=by unfold G2;rw[List.append_assoc]
section
variable {L rem i j bs bc op t k:Nat} {P:List Int} {O E:List Nat} {pz:Bool}
theorem WC.begin (hL:L=5∨L=6) (hr:rem=2^L+1):WC L P O false rem 0 (L-5) 4 0 []:=by
  subst hr;have hp:=Nat.two_pow_pos L;refine⟨?_,by rw[Nat.add_sub_cancel];exact D3.begin _ _,?_,Om,rfl,(fun h=>by cases h),Nat.zero_le _,Nat.zero_le _⟩
  · rw[show G2 L []=eA (L-5) 4 by simp[G2],bD,fU,Nat.mod_eq_of_lt Om];exact⟨(fun x hx=>by simp at hx),Om,Od,Oi,by simp[tailV]⟩
  · grind [BD]
theorem acG (h:mM (O.take op) bs bc (G2 L E).length (lowV (G2 L E))) (ho:op≤O.length):8*op+bc=4+E.length:=by
  have:=h.len;grind [Kj]
theorem WC.room (h:WC L P O pz rem i bs bc op E) (hL:L=5∨L=6):(L=5∧8*op+bc≤5+6*i)∨(L=6∧8*op+bc≤5+7*i):=by
  have h1:=acG h.wr h.ol;have h2:=h.bd;grind [BD]
theorem WM.room (h:WM L P O rem i bs bc op E) (hL:L=5∨L=6):(L=5∧8*op+bc≤6+6*i)∨(L=6∧8*op+bc≤6+7*i):=by
  have h1:=acG h.wr h.ol;have h2:=h.bd;grind
theorem WC.lt (h:WC L P O pz rem i bs bc op E):bs<2^bc:=h.wr.lt
theorem WC.ilt (h:WC L P O pz rem i bs bc op E) (hs:(a4 P).sum=2^L) (hr:1<rem):i<P.length:=by
  apply Classical.byContradiction;intro hn;have h2:=h.r2;have:dL (a4 P) i=2^L:=by rw[←hs];unfold dL;rw[List.take_of_length_le (by rw[jv];omega)]
  omega
theorem WC.sQ (h:WC L P O pz rem i bs bc op E) (hp:pz=false) (hs:(a4 P).sum=2^L) (hr:1<rem):WM L P O rem i bs bc op E:=by
  subst hp;exact⟨h.wr,h.wz,h.bd.sQ,fun _=>h.bd,hr,h.r2,h.ol,h.ilt hs hr⟩
theorem WC.akk (h:WC L P O pz rem i bs bc op E) (hp:pz=true):WR L P O rem i 0 bs bc op E:=by
  subst hp;exact⟨by simpa [z3] using h.wr,h.wz,h.bd,h.pz1 rfl,h.r2,h.ol⟩
theorem vh {ns:List Nat} {i:Nat}:∀z,(∀j,j<z→ns.getD (i+j) 0=0)→dL ns (i+z)=dL ns i
  |0,_=>rfl
  |z+1,h=>by rw[←Nat.add_assoc,eh,vh z (fun j hj=>h j Om),h z Om,Nat.add_zero]
theorem vi {P:List Int} {i:Nat}:(a4 P).getD i 0=0↔P.getD i 0=0:=by rw[zD];omega
theorem WR.more (h:WR L P O rem i t bs bc op E) (hs:(a4 P).sum=2^L) {z:Nat} (hz:∀j,j<z→P.getD (i+j) 0=0):i+z<P.length:=by
  have h1:=vh (ns:=a4 P) (i:=i) z fun j hj=>vi.2 (hz j hj)
  have h2:=h.r2;have h3:=h.r1;apply Classical.byContradiction;intro hn;have:dL (a4 P) (i+z)=2^L:=by rw[←hs];unfold dL;rw[List.take_of_length_le (by rw[jv];omega)]
  omega
theorem WR.three (h:WR L P O rem i t bs bc op E) (hb:bc≤30):WR L P O rem i (t+1) (bs+3*2^bc) (bc+2) op E:=by
  refine⟨?_,h.wz,h.bd,h.r1,h.r2,h.ol⟩;have:=h.wr.acF (x:=3) (b:=2) Od Om;grind [z3,eA,BQ]
theorem WR.fin (h:WR L P O rem i t bs bc op E) (hb:bc≤30) {r z:Nat} (hr:r<3) (hz:z=3*t+r) (h0:∀j,j<z→P.getD (i+j) 0=0) (hc:P.getD (i+z) 0≠0) (hs:(a4 P).sum=2^L):WM L P O rem (i+z) (bs+r*2^bc) (bc+2) op (E++zerosB z):=by
  have hl:=h.more hs h0;have e:zerosB z=z3 t++eA r 2:=by rw[hz];exact AE hr t
  refine⟨?_,h.wz.run hl h0 hc,?_,fun h9=>absurd h9 hc,h.r1,?_,h.ol,hl⟩
  · have:=h.wr.acF (x:=r) (b:=2) Om Om;grind [BQ]
  · have:=h.bd.run z;grind
  · rw[vh z fun j hj=>vi.2 (h0 j hj)];exact h.r2
theorem WM.put (h:WM L P O rem i bs bc op E) (hb:16<bc) (ho:op+1<O.length):WM L P ((O.set op (bs%256)).set (op+1) (bs/2^8%256)) rem i (bs/2^16) (bc-16) (op+2) E:=
  ⟨h.wr.akj Om ho,h.wz,h.bd,h.bz,h.r1,h.r2,Oz,h.il⟩
theorem WC.put (h:WC L P O pz rem i bs bc op E) (hb:16<bc) (ho:op+1<O.length):WC L P ((O.set op (bs%256)).set (op+1) (bs/2^8%256)) pz rem i (bs/2^16) (bc-16) (op+2) E:=
  ⟨h.wr.akj Om ho,h.wz,h.bd,h.r1,h.r2,h.pz1,Oz,h.il⟩
theorem akl {rem v k mx w b:Nat} (h1:2^k≤rem) (h2:rem<2^(k+1)) (hm:mx=2*2^k-1-rem) (hv:v≤rem) (hw:(v<2^k∧w=v)∨(2^k≤v∧w=v+mx)) (hb:(w<mx∧b+1=k+1)∨(mx≤w∧b=k+1)):im rem v=eA w b∧w<2^b:=by
  have hp:=Nat.two_pow_pos k;have MG:aq rem=k+1:=qE (by rw[Nat.add_sub_cancel];exact h1) h2 Om;grind [im]
theorem WM.next (h:WM L P O rem i bs bc op E) (hL:L=5∨L=6) (wR: -1≤P.getD i 0) (hs:(a4 P).sum=2^L) {v mx w b rm:Nat} (h1:2^k≤rem) (h2:rem<2^(k+1)) (hv:(v:Int)=P.getD i 0+1) (hm:mx=2*2^k-1-rem) (hw:(v<2^k∧w=v)∨(2^k≤v∧w=v+mx)) (hb:(w<mx∧b+1=k+1)∨(mx≤w∧b=k+1)) (hbc:bc≤30) (hk:k≤6) (hrm:rm=rem-(a4 P).getD i 0):
    ∃E',WC L P O (decide (((w:Nat):Int)=((1:Nat):Int))) rm (i+1) (bs+w*2^bc) (bc+b) op E':=by
  have ld:=kP (ns:=a4 P) (s:=i+1);rw[eh,hs,zD] at ld;rw[zD] at hrm;have hr2:=h.r2;have F9:=h.r1;have hp:=Nat.two_pow_pos k;obtain⟨e1,e2⟩:=akl (v:=v) h1 h2 hm Om hw hb;have hkk:1≤k:=by
    grind
  have uA:2≤2^k:=Nat.pow_le_pow_right (n:=2) Om hkk;have hw1:w=1↔P.getD i 0=0:=Om;have hwr:=h.wr.acF e2 Om;rw[←e1, ←BQ] at hwr;refine⟨E++im rem v,hwr,?_,?_,Om,by rw[eh,zD];omega,?_,h.ol,h.il⟩
  · by_cases h0:P.getD i 0=0
    · rw[decide_eq_true (by rw[hw1.2 h0]),show rm-1=rem-1 by omega];have:=h.wz.zero h.il h0 Om;grind
    · rw[decide_eq_false (by have:=fun q=>h0 (hw1.1 q);omega),show rm-1=rem-1-(P.getD i 0).natAbs by omega];have:=h.wz.num h.il rfl h0 wR Om;grind
  · rw[List.length_append, ←Nat.add_assoc];by_cases h0:P.getD i 0=0
    · rw[decide_eq_true (by rw[hw1.2 h0]),show v=1 by omega,show rm=rem by omega];exact(h.bz h0).zero hL Om Om
    · rw[decide_eq_false (by have:=fun q=>h0 (hw1.1 q);omega),hrm];exact BD.num h.bd hL Om Om Om Om Om
  · grind
theorem Pq {zF k:Nat} (h:zF=2^k) (hk:1≤k):zF/2^1=2^(k-1)∧2^(k-1+1)=2^k:=by
  grind
theorem WC.done (h:WC L P O pz rem i bs bc op E) (hs:(a4 P).sum=2^L) (hr:rem=1) (hb:bc≤16) (ho:op+1<O.length) (pj:P.getD (P.length-1) 0≠0) (hP:1≤P.length) {m:Nat} (hm:m=op+(bc+7)/8):
    ∃E,cG (2^L) P E∧m=(4+E.length+7)/8∧m≤op+2∧Bytes (((O.set op (bs%256)).set (op+1) (bs/2^8%256)).take m)∧tailV (((O.set op (bs%256)).set (op+1) (bs/2^8%256)).take m) 0 m=lowV (eA (L-5) 4++E):=by
  have hlen:=acG h.wr h.ol;have hr2:=h.r2;have hi:i=P.length:=by
    rcases Nat.lt_trichotomy i P.length with h1|h1|h1
    · have h2:=kP (ns:=a4 P) (s:=P.length-1+1);have h3:dL (a4 P) i≤dL (a4 P) (P.length-1):=by
        rcases Nat.lt_or_ge i (P.length-1) with h4|h4
        · have:=u' (ns:=a4 P) h4;omega
        · grind
      grind [eh,a4,vi]
    · exact h1
    · have:=h.il;omega
  have hpz:pz=false:=by
    cases pz with
    |false=>rfl
    |true=>have:=h.pz1 rfl;omega
  obtain⟨a1,a2,a3⟩:=h.wr.align (k:=(bc+7)/8) rfl;rw[Kj] at a2 a3;have ZQ:=h.wz;rw[hr] at ZQ;have VV:m=(4+E.length+7)/8:=Om;have e:((O.set op (bs%256)).set (op+1) (bs/2^8%256)).take m=O.take op++bR bs ((bc+7)/8):=by
    have e1:((O.set op (bs%256)).set (op+1) (bs/2^8%256)).take (op+2)=O.take op++bR bs 2:=AF ho;have e2:((O.set op (bs%256)).set (op+1) (bs/2^8%256)).take m=(((O.set op (bs%256)).set (op+1) (bs/2^8%256)).take (op+2)).take m:=by rw[List.take_take,Nat.min_eq_left Om]
    rw[e2,e1,List.take_append,List.take_of_length_le (by rw[List.length_take];omega),List.length_take,Nat.min_eq_left h.ol,show m-op=(bc+7)/8 by omega];congr 1;unfold bR;rw[←List.map_take,List.take_range,Nat.min_eq_left Om]
  refine⟨E,ZQ.done hpz hi,VV,Om,by rw[e];exact a1,?_⟩;rw[e,VV];exact a3
theorem LI {P:List Int} {i x:Nat} (h:∀q,q<x-i→P.getD (i+q) 0=0) (h0:P.getD x 0=0) (hi:i≤x):∀q,q<x+1-i→P.getD (i+q) 0=0:=fun q hq=>by
  grind
theorem acH {b:Nat} (h:b≤24):2^b≤16777216:=Nat.pow_le_pow_right (n:=2) Om h
theorem akm {r k:Nat} (h1:1≤r) (h:r<2^k):1≤k:=by
  grind
theorem WM.ns (h:WM L P O rem i bs bc op E) (hs:(a4 P).sum=2^L):(a4 P).getD i 0+1≤rem:=by
  have h2:=kP (ns:=a4 P) (s:=i+1);have h3:=h.r2;grind [eh]
theorem Pr {n mh:Nat} (h2:2≤n) (hn:n≤12) (hi:i≤n) (ho:op%2=0) (hb:1≤bc) (hr:(L=5∧8*op+bc≤5+6*i)∨(L=6∧8*op+bc≤5+7*i)) (hm:(L=5∧mh=(n*5+6)/8+3)∨(L=6∧mh=(n*6+6)/8+3)):op+1<mh:=by
  grind
theorem acI {w b:Nat} (h:w≤255):w*2^b≤255*2^b:=Nat.mul_le_mul_right _ h
end
theorem ly {W:Nat→Nat} {i:Nat}:∀{n:Nat},i≤n→sm W i≤sm W n
  |0,h=>by rw[show i=0 by omega];exact Nat.le_refl _
  |n+1,h=>by
    rcases Nat.lt_or_eq_of_le h with h1|h1
    · have:=ly (W:=W) (show i≤n by omega);simp only[sm];omega
    · grind
theorem pt {W:Nat→Nat} {i n:Nat} (h:i<n):W i≤sm W n:=by
  have:=ly (W:=W) (show i+1≤n by omega);grind [sm]
def nL (CN:List Nat) (j:Nat):Nat:=CN.getD j 0
section
variable {CN:List Nat} {R:List Int} {S i n d T lo L Z:Nat}
structure BS (CN:List Nat) (R:List Int) (S i d T lo:Nat):Prop where
  nj:GX CN R i
  hd:d=sa MI R i
  ht:T+sm (nL CN) i=S+sa (zj CN) R i
  ha:sm (nL CN) i≤sa (zj CN) R i+d*lo
theorem BS.zero:BS CN R S 0 0 S lo:=⟨GX.zero _ _,rfl,rfl,Nat.zero_le _⟩
theorem BS.none (h:BS CN R S i d T lo) (hi:i<R.length) (h0:CN.getD i 0=0):BS CN (R.set i 0) S (i+1) d T lo:=by
  refine⟨h.nj.step hi (.inl ⟨h0,rfl⟩),?_,?_,?_⟩
  · rw[et hi, ←h.hd];rfl
  · rw[et hi];have:=h.ht;simp only[sm,nL,zj] at this ⊢;rw[h0];simp;omega
  · rw[et hi];have:=h.ha;simp only[sm,nL,zj] at this ⊢;rw[h0];simp;omega
theorem BS.rest (h:BS CN R S i d T lo) (hi:i<R.length) (h0:CN.getD i 0≠0):BS CN (R.set i (-2)) S (i+1) d T lo:=by
  refine⟨h.nj.step hi (.inr ⟨h0,.inr (.inr rfl)⟩),?_,?_,?_⟩
  · rw[et hi, ←h.hd];rfl
  · rw[et hi];have:=h.ht;simp only[sm,nL,zj] at this ⊢;simp;omega
  · rw[et hi];have:=h.ha;simp only[sm,nL,zj] at this ⊢;simp;omega
theorem BS.room (h:BS CN R S i d T lo) (hS:sm (nL CN) n=S) (hi:i<n):CN.getD i 0≤T∧CN.getD i 0≤S:=by
  have h1:=ly (W:=nL CN) (show i+1≤n by omega);have h2:=h.ht;grind [sm,nL]
theorem BS.low (h:BS CN R S i d T lo) (hi:i<R.length) (h0:CN.getD i 0≠0) (hl:CN.getD i 0≤lo) {v:Int} (hv:v= -1∨v=1) (hT:CN.getD i 0≤T):BS CN (R.set i v) S (i+1) (d+1) (T-CN.getD i 0) lo:=by
  have wv:v≠ -2:=Om;refine⟨h.nj.step hi (.inr ⟨h0,Om⟩),?_,?_,?_⟩
  · rw[et hi, ←h.hd];simp only[MI,if_neg wv];omega
  · rw[et hi];have:=h.ht;simp only[sm,nL,zj,if_neg wv] at this ⊢;omega
  · rw[et hi,Nat.succ_mul];have:=h.ha;simp only[sm,nL,zj,if_neg wv] at this ⊢;omega
structure VZ (CN:List Nat) (R:List Int) (n d T:Nat):Prop where
  nj:GX CN R n
  hd:d=sa MI R n
  ht:T=sa (zj CN) R n
theorem BS.done (h:BS CN R S n d T lo) (hS:sm (nL CN) n=S):VZ CN R n d T:=⟨h.nj,h.hd,by have:=h.ht;omega⟩
theorem BS.pos (h:BS CN R S n d T lo) (hS:sm (nL CN) n=S) (hL:L=5∨L=6) (h0:0<S) (hn:n≤13) (Eb:lo=S*3/2^(L+1)):0<T:=by
  have h1:=h.nj.akb;have h2:=h.ht;have h3:=h.ha;have h4:=h.hd;have:=Xr (S:=S) (d:=d) (A:=S-T) (lo:=lo) (L:=L) hL h0 Om (by rw[Eb,Nat.mul_comm]) Om;omega
theorem VZ.le (h:VZ CN R n d T):d≤n:=by rw[h.hd];exact h.nj.akb
theorem VZ.room (h:VZ CN R n d T) (hi:i<n) (hv:R.getD i 0= -2):CN.getD i 0≤T:=by
  have:=pt (W:=fun j=>zj CN j (R.getD j 0)) hi;rw[h.ht];simp only[zj,hv,if_true] at this;exact this
theorem VZ.put (h:VZ CN R n d T) (hi:i<n) (hl:i<R.length) (hv:R.getD i 0= -2):VZ CN (R.set i 1) n (d+1) (T-CN.getD i 0):=by
  have e1:=BM (F:=MI) (v:=1) hi hl;have e2:=BM (F:=zj CN) (v:=1) hi hl;rw[hv] at e1 e2;refine⟨h.nj.put hl hi hv,?_,?_⟩
  · rw[h.hd];simp[MI] at e1;omega
  · rw[h.ht];simp[zj] at e2;simp[zj];omega
theorem acJ {S L:Nat}:S/2^L≤S*3/2^(L+1):=by
  have hp:=Nat.two_pow_pos L;rw[Nat.le_div_iff_mul_le (Nat.two_pow_pos _),Nat.pow_succ, ←Nat.mul_assoc];have:=Nat.div_mul_le_self S (2^L);omega
theorem GY.small {N0 NR:List Int} {v sQ rs tmp d iZ:Nat} (h:GY CN N0 NR n i v sQ rs tmp) (hL:L=5∨L=6) (hv:v=62-L) (LG:sQ=2^(v-1)-1) (ht:iZ=sa (zj CN) N0 n) (hd:d≤2^L) (O5:rs=(2^v*(2^L-d)+sQ)/iZ) (hi:i<n) (he:NR.getD i 0= -2):tmp+CN.getD i 0*rs≤9223372036854775807:=by
  have e:=h.rest i (Nat.le_refl _);rw[he] at e;have h1:sa (zj CN) N0 (i+1)≤iZ:=by rw[ht];exact ly (W:=fun j=>zj CN j (N0.getD j 0)) Om
  rw[mL, ←e] at h1;simp only[zj,if_true] at h1;have h2:=Nat.mul_le_mul_right rs h1;have h3:iZ*rs≤2^v*(2^L-d)+sQ:=by rw[O5];exact Nat.mul_div_le _ _
  have h4:=h.at_;grind
theorem AG {x L:Nat} (hx:x≤9223372036854775807) (hL:L=5∨L=6):x/2^(62-L)≤128:=by
  grind
structure Ek (L Z:Nat) (CN:List Nat) (R:List Int) (S i:Nat) (still:Int) (lp lg:Nat):Prop where
  nm:Pa CN R i
  lg:ve R i lp lg
  st:still=(Z:Int)-(sa fA R i:Nat)
  sml:sa fA R i≤65*i
  big:∀j,j<i→S/2^L<CN.getD j 0→1≤R.getD j 0
theorem Ek.zero:Ek L Z CN R S 0 (Z:Int) 0 0:=⟨Pa.zero _ _,ve.zero _ _,by simp[sa,sm],by simp[sa,sm],fun j h=>Om⟩
theorem yd {zF:Nat} {v:Int} (h:∀j,j<i→zF<CN.getD j 0→1≤R.getD j 0) (hi:i<R.length) (hv:zF<CN.getD i 0→1≤v):∀j,j<i+1→zF<CN.getD j 0→1≤(R.set i v).getD j 0:=fun j hj hb=>by
  grind
theorem Ek.none {still:Int} {lp lg:Nat} (h:Ek L Z CN R S i still lp lg) (hi:i<R.length) (h0:CN.getD i 0=0):Ek L Z CN (R.set i 0) S (i+1) still lp lg:=by
  refine⟨h.nm.step hi Od Om,h.lg.low hi Od,?_,?_,yd h.big hi (fun h9=>by rw[h0] at h9;exact absurd h9 (Nat.not_lt_zero _))⟩
  · rw[et hi];have:=h.st;simp only[fA];simp;omega
  · rw[et hi];have:=h.sml;simp only[fA];simp;omega
theorem Ek.low {still:Int} {lp lg:Nat} (h:Ek L Z CN R S i still lp lg) (hi:i<R.length) (h0:CN.getD i 0≠0) (hl:CN.getD i 0≤S/2^L):Ek L Z CN (R.set i (-1)) S (i+1) (still-1) lp lg:=by
  refine⟨h.nm.step hi Od Om,h.lg.low hi Od,?_,?_,yd h.big hi (fun h9=>Om)⟩
  · rw[et hi];have:=h.st;simp only[fA];simp;omega
  · rw[et hi];have:=h.sml;simp only[fA];simp;omega
theorem Ek.put {still:Int} {lp lg pb XD XE:Nat} (h:Ek L Z CN R S i still lp lg) (hi:i<R.length) (h0:CN.getD i 0≠0) (hp:1≤pb∧pb≤65) (hl:(lp<pb∧XD=pb∧XE=i)∨(pb≤lp∧XD=lp∧XE=lg)):Ek L Z CN (R.set i (pb:Int)) S (i+1) (still-(pb:Int)) XD XE:=by
  refine⟨h.nm.step hi Om (by constructor<;>intro h9<;>omega),?_,?_,?_,yd h.big hi (fun _=>Om)⟩
  · rcases hl with ⟨_,rfl,rfl⟩|⟨h2,rfl,rfl⟩
    · grind [ve.new]
    · exact h.lg.old hi hp.1 h2
  · rw[et hi];have:=h.st;simp only[fA];simp;omega
  · rw[et hi];have:=h.sml;simp only[fA];simp;omega
theorem Ek.top {still:Int} {lp lg:Nat} (h:Ek L Z CN R S n still lp lg) (hS:sm (nL CN) n=S) (h0:0<S) (hn:n<2^L):1≤lp∧lg<n∧R.getD lg 0=(lp:Int):=by
  rcases h.lg with ⟨h1,h2⟩|h1
  · obtain⟨j,hj,hb⟩:=D' hS h0 hn;have:=h.big j hj hb;grind
  · exact h1
theorem Ek.fin (hZ:Z=2^L) {still v:Int} {lp lg:Nat} (h:Ek L Z CN R S n still lp lg) (h1:1≤lp∧lg<n∧R.getD lg 0=(lp:Int)) (hl:n≤R.length) (hv:v=R.getD lg 0+still) (hb:¬((lp/2^1:Nat):Int)≤ -still):vV L CN (R.set lg v) n:=by
  have e:=BM (F:=fA) (v:=v) h1.2.1 (show lg<R.length by omega);have hs:=h.st;have h2:=h1.2.2;simp only[fA] at e;refine⟨h.nm.put Om Om Om,?_⟩;omega
end
def m8:List Nat:=[0,473195,504333,520860,550000,700000,750000,830000]
theorem acK (i:Nat):m8.getD i 0≤830000:=by
  rcases Nat.lt_or_ge i 8 with h|h
  · have:∀i,i<8→m8.getD i 0≤830000:=Od;exact this i h
  · simp_all [m8]
theorem vY {L x:Nat} (hL:L=5∨L=6) (hx:x≤830000):1*2^(62-L-20)*x≤1152921504606846976∧1*2^(62-L-20)≤137438953472:=by
  grind
theorem lO {xs:List Nat} (h:Bytes xs):∀n,tailV xs 0 n<2^(8*n)
  |0=>by simp[tailV]
  |n+1=>by
    have ih:=lO h n;have hb:=h.at_ n;simp only[tailV,Nat.zero_add];have:xs.getD n 0*2^(8*n)≤255*2^(8*n):=Nat.mul_le_mul_right _ Om;grind
theorem AH {xs ys:List Nat} (hx:Bytes xs) (hy:Bytes ys):∀n,tailV xs 0 n=tailV ys 0 n→∀i,i<n→xs.getD i 0=ys.getD i 0
  |0,_,i,h=>by omega
  |n+1,e,i,h=>by
    have h1:=lO hx n;have h2:=lO hy n;simp only[tailV,Nat.zero_add] at e;have hp:=Nat.two_pow_pos (8*n);have e1:xs.getD n 0=ys.getD n 0:=by
      have:=congrArg (fun z=>z/2^(8*n)) e;simp only[Nat.add_mul_div_right _ _ hp,Nat.div_eq_of_lt h1,Nat.div_eq_of_lt h2] at this;omega
    have e2:tailV xs 0 n=tailV ys 0 n:=by rw[e1] at e;omega
    rcases Nat.lt_or_eq_of_le (Nat.le_of_lt_succ h) with h3|h3
    · exact AH hx hy n e2 i h3
    · grind
theorem tQ {xs ys:List Nat} (hl:xs.length=ys.length) (h:∀i,i<xs.length→xs.getD i 0=ys.getD i 0):xs=ys:=by
  apply List.ext_getElem hl;grind
theorem G3 {ys H:List Nat} {k m r:Nat} (hy:Bytes ys) (hH:Bytes H) (hk:H.length=k) (hkm:k≤m) (hm:ys.length=m) (e:tailV ys 0 m=tailV H 0 k+2^(8*k)*r):ys=H++ys.drop k∧tailV (ys.drop k) 0 (m-k)=r:=by
  have h1:=uZ hy 0 (m:=k) (n:=m) hkm;have hb:=lO hH k;rw[e,Nat.add_mul_mod_self_left,Nat.mod_eq_of_lt hb] at h1;have h3:ys.take k=H:=tQ (by rw[List.length_take];omega) fun i hi=>by
    have hik:i<k:=by rw[List.length_take] at hi;omega
    have h4:=AH hH hy k h1 i hik;grind
  have h5:ys=H++ys.drop k:=by rw[←h3,List.take_append_drop]
  refine⟨h5,?_⟩;have h6:=kS H (ys.drop k) (m-k) (by rw[List.length_drop];omega);rw[←h5,hk,show k+(m-k)=m by omega,e,Nat.mul_comm (2^(8*k)) r] at h6;have hp:=Nat.two_pow_pos (8*k);exact(Nat.eq_of_mul_eq_mul_right hp Om).symm
theorem acL {L m:Nat} {P:List Int} {E W ys text:List Nat} {S:List Nat} {TT:List (Int × Nat)} {k:Nat} (hC:bx L P) (hD:cG (2^L) P E) (hW:Bytes W) (hk:k=(4+E.length+7)/8) (El:W.length=k) (hV:tailV W 0 k=lowV (eA (L-5) 4++E)) (hy:Bytes ys) (VY:ys.length=m) (h2:2≤text.length) (hs:∀s ∈ text,1≤(a4 P).getD s 0)
    (hm:m=k+(2*L+fN (buildD L (cY L P) (a4 P)) (encA L (cY L P) (a4 P) text))/8+1)
    (ht:tailV ys 0 m=lowV (eA (L-5) 4++E)+2^(8*k)*(2^(2*L+fN (buildD L (cY L P) (a4 P)) (encA L (cY L P) (a4 P) text))+(((encA L (cY L P) (a4 P) text).getD 0 0*2^L+(encA L (cY L P) (a4 P) text).getD 1 0)*2^fN (buildD L (cY L P) (a4 P)) (encA L (cY L P) (a4 P) text)+fR (buildD L (cY L P) (a4 P)) (encA L (cY L P) (a4 P) text)))):
    fM L P text ys∧2≤ys.length:=by
  rw[←hV] at ht;obtain⟨e1,e2⟩:=G3 hy hW El Om VY ht;refine⟨⟨hC,E,W,ys.drop k,e1,hD,hW,by rw[El,hk],by rw[←hk];exact hV,⟨_,hC.laid.text hs h2,fun i hi h3=>hC.laid.ends hs i hi h3,fun x hx=>hy x (List.mem_of_mem_drop hx),?_,?_⟩⟩,Om⟩
  · grind [fN,eE]
  · grind [eE]
theorem Ps {L:Nat} {CN:List Nat} {NR:List Int} {n s:Nat} (h:vV L CN NR n) (hs:s<n) (hc:CN.getD s 0≠0):1≤(a4 (NR.take n)).getD s 0:=by
  rw[zD,fW hs];have:=h.I.z s hs;omega
theorem LJ {L:Nat} {CN:List Nat} {NR:List Int} {n:Nat} (h:vV L CN NR n) (hn:1≤n) (hc:CN.getD (n-1) 0≠0):(NR.take n).getD (n-1) 0≠0:=by
  rw[fW Om];exact fun e=>hc ((h.I.z _ Om).1 e)
theorem akn {L:Nat} (h:L=5∨L=6):∃sz,Lz L sz:=by
  rcases h with rfl|rfl
  · exact⟨32,.inl ⟨rfl,rfl⟩⟩
  · exact⟨64,.inr ⟨rfl,rfl⟩⟩
def cZ (Z:List Nat) (i:Nat):Nat:=Z.getD i 0%4294967296
def pZ (Z:List Nat) (i:Nat):Nat:=Z.getD i 0/4294967296%65536
def sZ (Z:List Nat) (i:Nat):Nat:=Z.getD i 0/281474976710656%256
def bZ (Z:List Nat) (i:Nat):Nat:=Z.getD i 0/72057594037927936%256
def C4 (x c:Nat):Nat:=x/4294967296*4294967296+c
def AI (x p:Nat):Nat:=x%4294967296+p*4294967296+x/281474976710656*281474976710656
def og (x n:Nat):Nat:=x%72057594037927936+n*72057594037927936
def XF (c s:Nat):Nat:=c+s*281474976710656
theorem Pu {x k:Nat} (hk:k≤64) (h:x<2^64):x&&&((2^(64-k)-1)*2^k)=x/2^k*2^k:=by
  apply Nat.eq_of_testBit_eq;intro i;rw[Nat.testBit_and,Nat.testBit_mul_two_pow,Nat.testBit_mul_two_pow,Nat.testBit_two_pow_sub_one,Nat.testBit_div_two_pow];by_cases h1:k≤i
  · rw[show i-k+k=i by omega];by_cases h2:i<64
    · grind
    · have:x.testBit i=false:=Nat.testBit_lt_two_pow (Nat.lt_of_lt_of_le h (Nat.pow_le_pow_right Om Om));simp[this]
  · simp[h1]
theorem aag {a b k:Nat} (h:b<2^k):a*2^k|||b=a*2^k+b:=by
  grind [j8]
theorem acM {x c:Nat} (h:x<18446744073709551616) (hc:c<4294967296):x&&&18446744069414584320|||c=C4 x c:=by
  have e:x&&&18446744069414584320=x/2^32*2^32:=Pu (k:=32) Od h;rw[e,aag (by simpa using hc)];rfl
theorem acN {x n:Nat} (hn:n<256):x&&&72057594037927935|||n*2^56%18446744073709551616=og x n:=by
  have e:x&&&72057594037927935=x%2^56:=Nat.and_two_pow_sub_one_eq_mod x 56;rw[e,Nat.mod_eq_of_lt (a:=n*2^56) Om,j8 (Nat.mod_lt _ Od)];rfl
theorem acO {c s:Nat} (hc:c<4294967296) (hs:s<256):c|||s*2^48%18446744073709551616=XF c s:=by
  rw[Nat.mod_eq_of_lt Om,j8 Om];rfl
theorem acP {x p:Nat} (h:x<18446744073709551616) (hp:p<65536):x&&&18446462603027808255|||p*2^32%18446744073709551616=AI x p:=by
  have e0:(18446462603027808255:Nat)=18446462598732840960|||4294967295:=Od;have e1:x&&&18446462598732840960=x/2^48*2^48:=Pu (k:=48) Od h;have e2:x&&&4294967295=x%2^32:=Nat.and_two_pow_sub_one_eq_mod x 32;rw[e0,Nat.and_or_distrib_left,e1,e2,Nat.mod_eq_of_lt (a:=p*2^32) Om,Nat.or_assoc,j8 (Nat.mod_lt _ Od),aag Om];grind [AI]
theorem BT {x c:Nat} (h:x<18446744073709551616) (hc:c<4294967296):C4 x c<18446744073709551616:=by unfold C4;omega
theorem lX {x n:Nat} (hn:n<256):og x n<18446744073709551616:=by unfold og;omega
theorem BU {x p:Nat} (h:x<18446744073709551616) (hp:p<65536):AI x p<18446744073709551616:=by unfold AI;omega
theorem acQ {c s:Nat} (hc:c<4294967296) (hs:s<256):XF c s<18446744073709551616:=by unfold XF;omega
def fz (Z:List Nat):Prop:=∀i,Z.getD i 0<18446744073709551616
theorem fz.set {Z:List Nat} (h:fz Z) {i v:Nat} (hv:v<18446744073709551616):fz (Z.set i v):=fun j=>by
  rcases Nat.lt_or_ge i Z.length with hi|hi
  · rw[aS hi];split
    · exact hv
    · exact h j
  · rw[List.set_eq_of_length_le hi];exact h j
theorem fz.zero (n:Nat):fz (List.replicate n 0):=fun i=>by
  grind
section
variable {Z:List Nat} {i j c p n s x:Nat}
theorem ru {f:Nat→Nat} {v:Nat} (hi:i<Z.length):f ((Z.set i v).getD j 0)=if i=j then f v else f (Z.getD j 0):=by
  grind
theorem G4 (hi:i<Z.length) (hc:c<4294967296):cZ (Z.set i (C4 (Z.getD i 0) c)) j=if i=j then c else cZ Z j:=by
  unfold cZ;rw[ru (f:=fun x=>x%4294967296) hi];split
  · grind [C4]
  · rfl
theorem ako (hi:i<Z.length) (hc:c<4294967296):pZ (Z.set i (C4 (Z.getD i 0) c)) j=pZ Z j:=by
  unfold pZ;rw[ru (f:=fun x=>x/4294967296%65536) hi];split
  · (simp_all [C4];omega)
  · rfl
theorem akp (hi:i<Z.length) (hc:c<4294967296):sZ (Z.set i (C4 (Z.getD i 0) c)) j=sZ Z j:=by
  unfold sZ;rw[ru (f:=fun x=>x/281474976710656%256) hi];split
  · (simp_all [C4];omega)
  · rfl
theorem ati (hi:i<Z.length) (hp:p<65536):cZ (Z.set i (AI (Z.getD i 0) p)) j=cZ Z j:=by
  unfold cZ;rw[ru (f:=fun x=>x%4294967296) hi];split
  · grind [AI]
  · rfl
theorem atj (hi:i<Z.length) (hp:p<65536):pZ (Z.set i (AI (Z.getD i 0) p)) j=if i=j then p else pZ Z j:=by
  unfold pZ;rw[ru (f:=fun x=>x/4294967296%65536) hi];split
  · unfold AI;omega
  · rfl
theorem atk (hi:i<Z.length) (hp:p<65536):sZ (Z.set i (AI (Z.getD i 0) p)) j=sZ Z j:=by
  unfold sZ;rw[ru (f:=fun x=>x/281474976710656%256) hi];split
  · (simp_all [AI];omega)
  · rfl
theorem akq (hi:i<Z.length) (hn:n<256):cZ (Z.set i (og (Z.getD i 0) n)) j=cZ Z j:=by
  unfold cZ;rw[ru (f:=fun x=>x%4294967296) hi];split
  · grind [og]
  · rfl
theorem atl (hi:i<Z.length) (hn:n<256):pZ (Z.set i (og (Z.getD i 0) n)) j=pZ Z j:=by
  unfold pZ;rw[ru (f:=fun x=>x/4294967296%65536) hi];split
  · (simp_all [og];omega)
  · rfl
theorem akr (hi:i<Z.length) (hn:n<256):sZ (Z.set i (og (Z.getD i 0) n)) j=sZ Z j:=by
  unfold sZ;rw[ru (f:=fun x=>x/281474976710656%256) hi];split
  · (simp_all [og];omega)
  · rfl
theorem G5 (hi:i<Z.length) (hn:n<256):bZ (Z.set i (og (Z.getD i 0) n)) j=if i=j then n else bZ Z j:=by
  unfold bZ;rw[ru (f:=fun x=>x/72057594037927936%256) hi];split
  · grind [og]
  · rfl
end
theorem aks (Z:List Nat) (i:Nat):sZ Z i<256:=Nat.mod_lt _ Od
theorem akt (Z:List Nat) (i:Nat):bZ Z i<256:=Nat.mod_lt _ Od
end Go.Proofs.YtekcchgffhphbaaGreatDoor
