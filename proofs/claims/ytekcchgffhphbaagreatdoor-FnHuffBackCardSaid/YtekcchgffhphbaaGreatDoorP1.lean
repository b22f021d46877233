/- The walk's own engine and plain laws of numbers, bits and codes, part 1. -/
import Derived.Test.YtekcchgffhphbaaGreatDoorP0
import Derived.Still
set_option linter.unusedVariables false
set_option linter.unusedSimpArgs false
namespace Go.Proofs.YtekcchgffhphbaaGreatDoor
theorem Bytes.asK (n:Nat):Bytes (List.replicate n 0):=fun y hy=>by rw[List.mem_replicate] at hy;omega
theorem wU (Z:List Int) (i:Nat):(Z.map Int.toNat).getD i 0=(Z.getD i 0).toNat:=by
  grind
theorem om.app {a b:List Nat} (ha:om a) (hb:om b):om (a++b):=fun x hx=>(List.mem_append.1 hx).elim (ha x) (hb x)
theorem qj (di v:Nat):om (gW di v):=by
  grind [gW,jQ]
theorem lB:∀m,om (zerosB m)
  |0=>jQ _ _
  |1=>jQ _ _
  |2=>jQ _ _
  |m+3=>om.app (jQ 3 2) (lB m)
theorem kP {α:Type} {d r:α} {T F:List α} {u:Nat} (h:∀j,j<u→T.getD j d=F.getD j d) (hu:u<T.length) (hr:F.getD u d=r):∀j,j<u+1→(T.set u r).getD j d=F.getD j d:=fun j hj=>by
  grind
theorem zY {α:Type} {d:α} {T F:List α} {u:Nat} (h:∀j,j<u→T.getD j d=F.getD j d) (hl:T.length=F.length) (hu:T.length≤u):T=F:=by
  apply List.ext_getElem hl;intro i h1 h2;have:=h i Om;grind
theorem mu {α:Type} {Z:List α} {d v:α} {i p:Nat} (h:i<Z.length):(Z.set i v).getD p d=if p=i then v else Z.getD p d:=by
  grind
theorem uU {α:Type} {Z:List α} {d v:α} {i p:Nat} (hp:p≠i):(Z.set i v).getD p d=Z.getD p d:=by
  grind
structure KL (T:List Cell) (text ys:List Nat):Prop where
  ex:∃A,kV 6 T text A∧Bytes ys∧ys.length=(12+fN T A)/8+1∧tailV ys 0 ((12+fN T A)/8+1)=2^(12+fN T A)+((A.getD 0 0*2^6+A.getD 1 0)*2^fN T A+fR T A)
structure abL (cs H:List Nat):Prop where
  ex:∃E,Descr 64 cs E∧Bytes H∧H.length=(4+E.length+7)/8∧tailV H 0 ((4+E.length+7)/8)=lowV (ez 1 4++E)∧E.length≤16*cs.length
  sum:cs.sum=64
  two:1<nzc cs
structure abM (cs text ys:List Nat):Prop where
  cB:Wi 6 cs
  ex:∃H B,ys=H++B∧abL cs H∧KL (abJ 6 cs) text B
def uV (L n:Nat):Nat:=if n=0 then 0 else L+1-n
def bI (ls:List Nat) (L last:Nat):List Nat:=(ls.take last).map (uV L)
structure HW (ls:List Nat) (L last:Nat):Prop where
  le:dW ls L
  at_:∃p,p<ls.length∧ls.getD p 0=L
  lt:last<ls.length
  nz:ls.getD last 0≠0
  z:∀p,last<p→ls.getD p 0=0
theorem jR {ls:List Nat} {L last:Nat} (h:last≤ls.length):(bI ls L last).length=last:=by simp[bI];omega
theorem zg {ls:List Nat} {L last p:Nat} (h:last≤ls.length) (hp:p<last):(bI ls L last).getD p 0=uV L (ls.getD p 0):=by
  grind [bI]
theorem tj {ls:List Nat} {L last:Nat}:dW (bI ls L last) L:=fun x hx=>by
  obtain⟨n,_,rfl⟩:=List.mem_map.1 hx;grind [uV]
def nib:List Nat→List Nat
  |a::b::r=>(a*16+b)::nib r
  |[a]=>[a*16]
  |[]=>[]
theorem rJ:∀xs:List Nat,(nib xs).length=(xs.length+1)/2
  |[]=>by simp[nib]
  |[a]=>by simp[nib]
  |a::b::r=>by simp only[nib,List.length_cons,rJ r];omega
theorem ajd (a x:Nat) (h:x<16):a*16|||x=a*16+x:=by
  have:=Nat.two_pow_add_eq_or_of_lt (i:=4) (b:=x) h a;grind
structure aje (ls ys:List Nat):Prop where
  ex:∃L last,HW ls L last∧last≤128∧ys=[127+last]++nib (bI ls L last)
structure ajf (ls ys:List Nat):Prop where
  ex:∃L last cs b,HW ls L last∧cs.length=13∧dW cs 63∧abM cs (bI ls L last) b∧b.length≤127∧ys=[b.length]++b
theorem fit {C:List Nat} {k v w:Nat} (h:dW C w) (hv:v≤w):dW (C.set k v) w:=fun y hy=>by
  rcases List.mem_or_eq_of_mem_set hy with h1|h1
  · exact h y h1
  · omega
theorem zZ:∀xs:List Nat,dW xs 15→Bytes (nib xs)
  |[],_=>fun x hx=>by simp[nib] at hx
  |[a],h=>fun x hx=>by
    have:=h a Oi;grind [nib]
  |a::b::r,h=>fun x hx=>by
    have h1:=h a Oi;have h2:=h b Oi;simp only[nib,List.mem_cons] at hx;rcases hx with hx|hx
    · omega
    · exact zZ r (fun y hy=>h y (by simp[hy])) x hx
end Go.Proofs.YtekcchgffhphbaaGreatDoor
namespace Go.Proofs.YtekcchgffhphbaaGreatDoor
open Go
end Go.Proofs.YtekcchgffhphbaaGreatDoor
namespace Go.Proofs.YtekcchgffhphbaaGreatDoor
def z6 (xs:List Nat) (len p:Nat) (bs:List Nat):Prop:=(p+bs.length+7)/8≤len∧tailV xs 0 len/2^p%2^bs.length=lowV bs
theorem z6.take {xs bs:List Nat} {len p v n:Nat} (h:z6 xs len p (ez v n++bs)) (hb:Bytes xs):bitsN xs p n=v%2^n∧z6 xs len (p+n) bs∧(p+n+7)/8≤len:=by
  obtain⟨h1,h2⟩:=h;rw[List.length_append,bA] at h1 h2;have hf:(p+n+7)/8≤len:=Om;rw[fQ,fH,bA,Nat.pow_add] at h2;have eU:v%2^n<2^n:=Nat.mod_lt _ (Nat.pow_pos Om);refine⟨?_,⟨Om,?_⟩,hf⟩
  · rw[xq hb n hf];have:=congrArg (· %2^n) h2;simp only[Nat.mod_mul_right_mod,Nat.add_mul_mod_self_left] at this;simp_all
  · have:=congrArg (· /2^n) h2;simp only[Nat.mod_mul_right_div_self] at this;rw[Nat.pow_add, ←Nat.div_div_eq_div_mul,this,Nat.add_mul_div_left _ _ (Nat.pow_pos Om),Nat.div_eq_of_lt eU,Nat.zero_add]
theorem z6.skip {xs a bs:List Nat} {len p:Nat} (h:z6 xs len p (a++bs)) (ha:om a):z6 xs len (p+a.length) bs:=by
  obtain⟨h1,h2⟩:=h;rw[List.length_append] at h1 h2;rw[fQ,Nat.pow_add] at h2;refine⟨Om,?_⟩;have:=congrArg (· /2^a.length) h2;simp only[Nat.mod_mul_right_div_self] at this;rw[Nat.pow_add, ←Nat.div_div_eq_div_mul,this,Nat.add_mul_div_left _ _ (Nat.pow_pos Om),Nat.div_eq_of_lt (wE ha),Nat.zero_add]
theorem z6.abN {xs bs:List Nat} {len:Nat} (hl:(bs.length+7)/8≤len) (h:tailV xs 0 len%2^bs.length=lowV bs):z6 xs len 0 bs:=⟨Om,by rw[Nat.pow_zero,Nat.div_one];exact h⟩
end Go.Proofs.YtekcchgffhphbaaGreatDoor
namespace Go.Proofs.YtekcchgffhphbaaGreatDoor
open Go
section
variable {P:Program} {fn:Func} {dx:Value→List au→Prop} {l0 l r:List au} {w0:World} {n:Nat} {p rest:List au} {ρ:aC}
theorem Bk {w:World} {vs:List Value} {t:TypeId} {b q:Nat} (hP:l9 P t=some true) (hz:eV P t=some vs.length) (h:∀j,j<vs.length→w.cell? ⟨b,q+j,none⟩=some (vs.getD j undef)):(loadVar t ⟨b,q,none⟩).run P w=.ok (.agg vs.toArray) w:=by
  have:=run_loadCellsFrom (P:=P) (w:=w) ⟨b,q,none⟩ vs.length 0 vs.toArray #[] (fun j hj=>by rw[dd,Nat.zero_add,h j hj];simp) Oi;simp[loadVar,qc hP,cC hz,loadCells,this]
end
section
variable {P:Program} {ρ:aC} {o:Oper} {t:TypeId} {n sz:Nat}
end
def fD (c:Nat × Nat × Nat):List Value:=[.int .u16 ((c.2.2:Nat):Int),.int .u8 ((c.1:Nat):Int),.int .u8 ((c.2.1:Nat):Int)]
theorem fo (c:Nat × Nat × Nat):(fD c).length=3:=rfl
theorem Wm {T:List (Nat × Nat × Nat)} {i:Nat} (h:i<T.length):(rows fD T)[i*3]? =some (.int .u16 (((T.getD i (0,0,0)).2.2:Nat):Int)):=s6 (e:=0) fo (0,0,0) h Od
theorem Jn {T:List (Nat × Nat × Nat)} {i:Nat} (h:i<T.length):(rows fD T)[i*3+1]? =some (.int .u8 (((T.getD i (0,0,0)).1:Nat):Int)):=s6 fo (0,0,0) h Od
theorem Jo {T:List (Nat × Nat × Nat)} {i:Nat} (h:i<T.length):(rows fD T)[i*3+2]? =some (.int .u8 (((T.getD i (0,0,0)).2.1:Nat):Int)):=s6 fo (0,0,0) h Od
theorem Wn (n:Nat):(List.replicate n ([.int .u16 ((0:Nat):Int),.int .u8 ((0:Nat):Int),.int .u8 ((0:Nat):Int)]:List Value)).flatten=rows fD (List.replicate n (0,0,0)):=by
  induction n with
  |zero=>rfl
  |succ n ih=>simp only[List.replicate_succ,List.flatten_cons,rows,List.flatMap_cons] at ih ⊢;rw[ih];rfl
theorem NI (W:List Nat) (j:Nat):cK W j []=W:=by simp[cK]
section
variable {P:Program} {K:Kx} {Q:Exit→Act→World→Prop} {ρ:aC} {l r:List au} {o:Oper} {t n m cap q d:Nat} {k:IntKind}
theorem nf {ca:Call} {q2:Option Addr} {c2 e nQ:Nat} {zs:List Value} {W ys:List Nat} {sg:au} (i j:Nat) (ho:o.op=.call ca) (hc:ca.callee=.builtin .append) (gx:evs ρ ca.args.toList=some [.slice (some ⟨sg.b,q,none⟩) n cap,.slice q2 m c2]) (vz:ca.argTypes= #[t,t]) (hP:e8 P t=some (e,zs,1,nQ)) (hz:zs.length=1)
    (hs:nthS i l=some sg) (hq:q=sg.o+j) (CA:sg.cs=aa k W∧j+n+m≤W.length) (oQ:Src l r q2 (aa k ys)) (hn:n+m≤cap∧ys.length=m) (hd:o.dst=some d) (sM:Nat.blt d K.n=true):
    kB P K ρ l r o (fun ρ' l'=>ρ'=(d,.slice (some ⟨sg.b,q,none⟩) (n+m) cap)::ρ∧l'=setS i ⟨sg.b,sg.o,aa k (cK W (j+n) ys),sg.sh⟩ l):=by
  intro a w ha nx Q lY;obtain⟨ja,hlen⟩:=hn;obtain⟨b,o',cs,sh⟩:=sg;simp only at CA hq gx hs ⊢;obtain⟨rfl,hj⟩:=CA;subst hq;obtain⟨i',zv,hu,hi,rB,lz,vy,Df⟩:=fZ hP;have rC:∀w,(sizeOf e).run P w=.ok 1 w:=cC (by simp[eV,hi,vy]);have iz:=kC ha.fr gx;have Wb:∀u ∈ aa k ys,u.oneCell'=true:=fun u hu=>List.all_eq_true.1 (eh ys) u hu
  have ks:∀(u:Value) (w':World),(Builtin.append_ #[t,t] o.type #[.slice (some ⟨b,o'+j,none⟩) n cap,.slice q2 m c2]).run P w=.ok u w'→(execOp a.eval o).run P w=.ok (.value u) w':=fun u w' h=>by
    simp[execOp,ho,resolve,hc,iz,invoke,builtin,vz,h]
  have zV:zv.cells.size=1:=by rw[←hz, ←lz];simp
  have hnl:(aa k ys).length=m*1:=by simp[hlen]
  unfold Oper.wp;have none_:m=0→nx (a.put (some d) (.slice (some ⟨b,o'+j,none⟩) (n+m) cap)) w:=fun hm=>by
    subst hm;have e0:ys=[]:=List.eq_nil_of_length_eq_zero hlen;subst e0;refine lY _ _ ⟨_,_,⟨rfl,rfl⟩,?_⟩;rw[NI,gQ i _ l hs];exact ha.put sM _
  by_cases L3:m=0
  · have Di:(Builtin.firstCells 1 0 (.slice q2 0 c2)).run P w=.ok #[] w:=by
      cases q2<;>simp[Builtin.firstCells,loadCells,loadCellsFrom]
    have hr:(Builtin.append_ #[t,t] o.type #[.slice (some ⟨b,o'+j,none⟩) n cap,.slice q2 0 c2]).run P w=.ok (.slice (some ⟨b,o'+j,none⟩) (n+0) cap) w:=by
      simp[Builtin.append_,aK hu,rC,Builtin.lenOf,show n≤cap by omega,Di,storeCells]
    have ajg:=none_ L3;subst L3;rw[ks _ _ hr];simp only[Oper.upon,hd];exact ajg
  · rcases oQ.cells ha with Dh|⟨ad,Nv,jb⟩
    · grind
    · subst Nv;have Di:=run_firstCells_some (P:=P) w 1 m ad m c2 (aa k ys) hnl jb;obtain⟨w',Wc,hA⟩:=fE (P:=P) (aa k ys) 0 (j+n) l w ⟨b,o',aa k W,sh⟩ i b (o'+j+n) ha hs rfl (by show o'+j+n=o'+(j+n);omega) Oz Wb;have hr:(Builtin.append_ #[t,t] o.type #[.slice (some ⟨b,o'+j,none⟩) n cap,.slice (some ad) m c2]).run P w=.ok (.slice (some ⟨b,o'+j,none⟩) (n+m) cap) w':=by
        simp[Builtin.append_,aK hu,rC,Builtin.lenOf,ja,Di,dd,Wc]
      rw[ks _ _ hr];simp only[Oper.upon,hd];refine lY _ _ ⟨_,_,⟨rfl,rfl⟩,?_⟩;have e1:=fj (k:=k) W ys (j+n) Om;rw[←e1];exact hA.put sM _
end
end Go.Proofs.YtekcchgffhphbaaGreatDoor
namespace Go.Proofs.YtekcchgffhphbaaGreatDoor
def sub (text:List Nat) (a m:Nat):List Nat:=(text.drop a).take m
theorem NJ {text:List Nat} {a m:Nat} (h:a<text.length) (hm:0<m):sub text a m=text.getD a 0::sub text (a+1) (m-1):=by
  unfold sub;obtain⟨m,rfl⟩:∃k,m=k+1:=⟨m-1,Om⟩;rw[List.drop_eq_getElem_cons h,List.take_succ_cons];simp[h]
theorem F8 {text:List Nat} {a m:Nat} (h:a+m≤text.length):(sub text a m).length=m:=by simp[sub];omega
section
variable {xs dt:List Nat} {k len L:Nat} {cd:Nat→Nat × Nat} {S:Nat→Prop} {s:BR} {text:List Nat} {a m:Nat}
theorem aJ.dY (h:aJ xs k len cd S s (sub text a m)) (hT:wg dt L cd S) (hb:Bytes xs) (ham:a<text.length∧0<m) (hr:s.rd+L≤64∨s.off=0):
    ∃c n p,c=text.getD a 0∧s.val/2^(64-L)=p∧dt.getD p 0=n+256*c∧p<2^L∧c<256∧1≤n∧n≤L∧s.rd+n≤64∧tN cd (sub text a m)=n+tN cd (sub text (a+1) (m-1))∧aJ xs k len cd S (s.adv n) (sub text (a+1) (m-1)):=by
  rw[NJ ham.1 ham.2] at h ⊢;obtain⟨n,p,h1,h2,h3,h4,h5,h6,h7,h8,h9⟩:=h.get hT hb hr;grind
theorem aJ.wF {B:Nat} (h:aJ xs k len cd S s (sub text a m)) (hT:wg dt L cd S) (hB:L≤B) (ham:a+m≤text.length):tN cd (sub text a m)≤B*m∧m≤tN cd (sub text a m):=by
  have:=jc hT hB h.all;grind [F8]
theorem aJ.ar {a' m':Nat} (h:aJ xs k len cd S s (sub text a m)) (e1:a=a') (e2:m=m'):aJ xs k len cd S s (sub text a' m'):=e1▸e2▸h
end
def Row (ys text:List Nat) (a n:Nat):Prop:=∀q,q<n→ys.getD q 0=text.getD (a+q) 0
theorem Row.zero {ys text:List Nat} {a:Nat}:Row ys text a 0:=fun q h=>by omega
theorem gg {xs:List Nat} {i j v:Nat} (h:i<xs.length):(xs.set i v).getD j 0=if i=j then v else xs.getD j 0:=by
  grind
theorem Row.set {ys text:List Nat} {a n c i:Nat} (h:Row ys text a n) (hn:n<ys.length) (hi:i=n) (hc:c=text.getD (a+n) 0):Row (ys.set i c) text a (n+1):=fun q hq=>by
  subst hi;rw[gg hn];split
  · grind
  · exact h q Om
def aH (ds text:List Nat) (a n:Nat):Prop:=∀p,a≤p→p<a+n→ds.getD p 0=text.getD p 0
theorem aH.zero {ds text:List Nat} {a:Nat}:aH ds text a 0:=fun p h1 h2=>by omega
theorem mv {ds ys:List Nat} {j p:Nat} (h:j+ys.length≤ds.length):(cK ds j ys).getD p 0=if j≤p∧p<j+ys.length then ys.getD (p-j) 0 else ds.getD p 0:=by
  simp only[List.getD_eq_getElem?_getD,cK];by_cases h1:p<j
  · grind
  · grind
theorem aH.iw {ds ys text:List Nat} {a n j a' m:Nat} (h:aH ds text a n) (hr:Row ys text a' m) (hj:j+m≤ds.length∧ys.length=m∧a'=j):aH (cK ds j ys) text a n:=fun p h1 h2=>by
  rw[mv Om];split
  · rename_i e;rw[hr (p-j) Om];congr 1;omega
  · exact h p h1 h2
theorem aH.more {ds ys text:List Nat} {a n j a' m:Nat} (h:aH ds text a n) (hr:Row ys text a' m) (hj:j+m≤ds.length∧ys.length=m∧a'=j∧a+n=j):aH (cK ds j ys) text a (n+m):=fun p h1 h2=>by
  rw[mv Om];split
  · rename_i e;rw[hr (p-j) Om];congr 1;omega
  · exact h p h1 Om
theorem aH.set {ds text:List Nat} {a n p c:Nat} (h:aH ds text a n) (hp:p<ds.length) (hc:c=text.getD p 0):aH (ds.set p c) text a n:=fun q h1 h2=>by
  rw[gg hp];split
  · grind
  · exact h q h1 h2
theorem aH.put {ds text:List Nat} {a n p c:Nat} (h:aH ds text a n) (hp:p<ds.length) (hc:c=text.getD p 0) (he:p=a+n):aH (ds.set p c) text a (n+1):=fun q h1 h2=>by
  rw[gg hp];split
  · grind
  · exact h q h1 Om
theorem aH.ar {ds text:List Nat} {a n a' n':Nat} (h:aH ds text a n) (e1:a=a') (e2:n=n'):aH ds text a' n':=e1▸e2▸h
theorem Row.take {ys text:List Nat} {a n m:Nat} (h:Row ys text a n) (hm:m≤n) (hl:n≤ys.length):Row ((ys.drop 0).take m) text a m∧((ys.drop 0).take m).length=m:=by
  refine⟨fun q hq=>?_,Oz⟩;rw[←h q Om];grind
theorem Row.ar {ys text:List Nat} {a n a' n':Nat} (h:Row ys text a n) (e1:a=a') (e2:n=n'):Row ys text a' n':=e1▸e2▸h
theorem Wo {ds text:List Nat} (hl:ds.length=text.length) (h:∀p,p<text.length→ds.getD p 0=text.getD p 0):ds=text:=by
  apply List.ext_getElem hl;grind
theorem abO {ds text:List Nat} {ev m3:Nat} (hl:ds.length=text.length) (hm:text.length=3*ev+m3) (h0:aH ds text (ev*0) ev) (h1:aH ds text (ev*1) ev) (h2:aH ds text (ev*2) ev) (h3:aH ds text (ev*3) m3):ds=text:=by
  refine Wo hl fun p hp=>?_
  rcases Nat.lt_or_ge p ev with h|h
  · exact h0 p Om Om
  rcases Nat.lt_or_ge p (2*ev) with h|h
  · exact h1 p Om Om
  rcases Nat.lt_or_ge p (3*ev) with h|h
  · exact h2 p Om Om
  · exact h3 p Om Om
theorem jt {x y n:Nat} (h:x=n%256∧y=n/256):x|||y*2^8=n:=by
  rw[eH (n:=8) Om];omega
section
variable {P:Program} {K:Kx} {Q:Exit→Act→World→Prop} {ρ:aC} {l r:List au} {L rest:List Oper} {o:Oper}
theorem At.split {a:Act} {w:World} {b o o':Nat} {xs ys:List Value} {sh:Option (TypeId × Nat)} (h:At K ρ (⟨b,o,xs++ys,sh⟩::l) r a w) (ho:o'=o+xs.length):At K ρ (⟨b,o,xs,none⟩::⟨b,o',ys,none⟩::l) r a w:=by
  subst ho;have jz:=h.st.hl _ List.mem_cons_self;have pc:=List.pairwise_cons.1 h.st.pw;have hx:∀b' j:Nat,(⟨b,o,xs,none⟩:au).has b' j→(⟨b,o,xs++ys,sh⟩:au).has b' j:=fun b' j ⟨h1,h2,h3⟩=>⟨h1,h2,by simp at h3 ⊢;omega⟩
  have hy:∀b' j:Nat,(⟨b,o+xs.length,ys,none⟩:au).has b' j→(⟨b,o,xs++ys,sh⟩:au).has b' j:=fun b' j ⟨h1,h2,h3⟩=>⟨h1,by simp at h2 ⊢;omega,by simp at h2 h3 ⊢;omega⟩
  refine⟨h.size,h.defers,h.fr,h.keeps,⟨?_,h.st.hr,?_,?_⟩,?_⟩
  · intro u hu;rcases List.mem_cons.1 hu with h'|hu
    · subst h';refine⟨fun j v hj=>jz.1 j v ?_,fun j hj=>jz.2.1 j (by simp at hj ⊢;omega),fun x hx=>by cases hx⟩;grind
    · rcases List.mem_cons.1 hu with h'|hu
      · subst h';refine⟨fun j v hj=>?_,fun j hj=>?_,fun x hx=>by cases hx⟩
        · have:=jz.1 (xs.length+j) v (by
            grind)
          grind
        · have:=jz.2.1 (xs.length+j) (by simp at hj ⊢;omega);grind
      · exact h.st.hl u (List.mem_cons_of_mem _ hu)
  · refine List.Pairwise.cons (fun u hu=>?_) (List.Pairwise.cons (fun u hu=>?_) pc.2)
    · rcases List.mem_cons.1 hu with h'|hu
      · subst h';intro b' j h1 h2;have a1:=h1.2.2;have a2:=h2.2.1;grind
      · exact fun b' j h1 h2=>pc.1 u hu b' j (hx b' j h1) h2
    · exact fun b' j h1 h2=>pc.1 u hu b' j (hy b' j h1) h2
  · intro u hu t ht;rcases List.mem_cons.1 hu with h'|hu
    · subst h';exact fun b' j h1 h2=>h.st.lr _ List.mem_cons_self t ht b' j (hx b' j h1) h2
    · rcases List.mem_cons.1 hu with h'|hu
      · subst h';exact fun b' j h1 h2=>h.st.lr _ List.mem_cons_self t ht b' j (hy b' j h1) h2
      · exact h.st.lr u (List.mem_cons_of_mem _ hu) t ht
  · intro u hu b' j hh;rcases List.mem_cons.1 hu with h'|hu
    · subst h';exact h.own _ List.mem_cons_self b' j (hx b' j hh)
    · rcases List.mem_cons.1 hu with h'|hu
      · subst h';exact h.own _ List.mem_cons_self b' j (hy b' j hh)
      · exact h.own u (List.mem_cons_of_mem _ hu) b' j hh
theorem gX {b o o':Nat} {cs xs ys:List Value} {sh:Option (TypeId × Nat)} (i:Nat) (hi:nthS i l=some ⟨b,o,cs,sh⟩) (hc:cs=xs++ys) (ho:o'=o+xs.length) {a:Act} {w:World} (h:At K ρ l r a w):At K ρ (⟨b,o,xs,none⟩::⟨b,o',ys,none⟩::l.eraseIdx i) r a w:=by
  have hp:l.Perm (⟨b,o,cs,sh⟩::l.eraseIdx i):=by
    have h1:=iA i ⟨b,o,cs,sh⟩ _ l hi;grind [gQ]
  subst hc;exact(h.perm hp).split ho
theorem G.gX {c:Code} {b o o':Nat} {cs xs ys:List Value} {sh:Option (TypeId × Nat)} (i:Nat) (hi:nthS i l=some ⟨b,o,cs,sh⟩) (hc:cs=xs++ys) (ho:o'=o+xs.length) (h:G P K Q c ρ (⟨b,o,xs,none⟩::⟨b,o',ys,none⟩::l.eraseIdx i) r):G P K Q c ρ l r:=
  fun a w ha=>h a w (YtekcchgffhphbaaGreatDoor.gX i hi hc ho ha)
theorem GQ.lists {e:Exit} {l':List au} (hl:l=l') (h:GQ K Q e ρ l' r):GQ K Q e ρ l r:=hl▸h
theorem G.lists {c:Code} {l':List au} (hl:l=l') (h:G P K Q c ρ l' r):G P K Q c ρ l r:=hl▸h
end
theorem dM {k:IntKind} {xs:List Nat} {n:Nat} (h:xs.length=n):((aa k xs).drop 0).take n=aa k xs:=by
  rw[List.drop_zero,List.take_of_length_le Oz]
theorem eA (k:IntKind) (m n x:Nat):aa k (List.replicate (m+n) x)=aa k (List.replicate m x)++aa k (List.replicate n x):=by
  simp_all [aa]
end Go.Proofs.YtekcchgffhphbaaGreatDoor
namespace Go.Proofs.YtekcchgffhphbaaGreatDoor
open Go
section
variable {P:Program} {K:Kx} {Q:Exit→Act→World→Prop} {ρ:aC} {l r:List au} {L rest:List Oper} {o:Oper}
theorem At.abP {a:Act} {w:World} {b o o':Nat} {xs ys:List Value} {sh:Option (TypeId × Nat)} (h:At K ρ (⟨b,o,xs++ys,sh⟩::l) r a w) (ho:o'=o+xs.length):At K ρ (⟨b,o,xs,sh⟩::⟨b,o',ys,none⟩::l) r a w:=by
  subst ho;have jz:=h.st.hl _ List.mem_cons_self;have pc:=List.pairwise_cons.1 h.st.pw;have hx:∀b' j:Nat,(⟨b,o,xs,sh⟩:au).has b' j→(⟨b,o,xs++ys,sh⟩:au).has b' j:=fun b' j ⟨h1,h2,h3⟩=>⟨h1,h2,by simp at h3 ⊢;omega⟩
  have hy:∀b' j:Nat,(⟨b,o+xs.length,ys,none⟩:au).has b' j→(⟨b,o,xs++ys,sh⟩:au).has b' j:=fun b' j ⟨h1,h2,h3⟩=>⟨h1,by simp at h2 ⊢;omega,by simp at h2 h3 ⊢;omega⟩
  refine⟨h.size,h.defers,h.fr,h.keeps,⟨?_,h.st.hr,?_,?_⟩,?_⟩
  · intro u hu;rcases List.mem_cons.1 hu with h'|hu
    · subst h';refine⟨fun j v hj=>jz.1 j v ?_,fun j hj=>jz.2.1 j (by simp at hj ⊢;omega),fun x hx=>jz.2.2 x hx⟩;grind
    · rcases List.mem_cons.1 hu with h'|hu
      · subst h';refine⟨fun j v hj=>?_,fun j hj=>?_,fun x hx=>by cases hx⟩
        · have:=jz.1 (xs.length+j) v (by
            grind)
          grind
        · have:=jz.2.1 (xs.length+j) (by simp at hj ⊢;omega);grind
      · exact h.st.hl u (List.mem_cons_of_mem _ hu)
  · refine List.Pairwise.cons (fun u hu=>?_) (List.Pairwise.cons (fun u hu=>?_) pc.2)
    · rcases List.mem_cons.1 hu with h'|hu
      · subst h';intro b' j h1 h2;have a1:=h1.2.2;have a2:=h2.2.1;grind
      · exact fun b' j h1 h2=>pc.1 u hu b' j (hx b' j h1) h2
    · exact fun b' j h1 h2=>pc.1 u hu b' j (hy b' j h1) h2
  · intro u hu t ht;rcases List.mem_cons.1 hu with h'|hu
    · subst h';exact fun b' j h1 h2=>h.st.lr _ List.mem_cons_self t ht b' j (hx b' j h1) h2
    · rcases List.mem_cons.1 hu with h'|hu
      · subst h';exact fun b' j h1 h2=>h.st.lr _ List.mem_cons_self t ht b' j (hy b' j h1) h2
      · exact h.st.lr u (List.mem_cons_of_mem _ hu) t ht
  · intro u hu b' j hh;rcases List.mem_cons.1 hu with h'|hu
    · subst h';exact h.own _ List.mem_cons_self b' j (hx b' j hh)
    · rcases List.mem_cons.1 hu with h'|hu
      · subst h';exact h.own _ List.mem_cons_self b' j (hy b' j hh)
      · exact h.own u (List.mem_cons_of_mem _ hu) b' j hh
theorem Dx {b o o':Nat} {cs xs ys:List Value} {sh:Option (TypeId × Nat)} (i:Nat) (hi:nthS i l=some ⟨b,o,cs,sh⟩) (hc:cs=xs++ys) (ho:o'=o+xs.length) {a:Act} {w:World} (h:At K ρ l r a w):At K ρ (⟨b,o,xs,sh⟩::⟨b,o',ys,none⟩::l.eraseIdx i) r a w:=by
  have hp:l.Perm (⟨b,o,cs,sh⟩::l.eraseIdx i):=by
    have h1:=iA i ⟨b,o,cs,sh⟩ _ l hi;grind [gQ]
  subst hc;exact(h.perm hp).abP ho
theorem G.Dx {c:Code} {b o o':Nat} {cs xs ys:List Value} {sh:Option (TypeId × Nat)} (i:Nat) (hi:nthS i l=some ⟨b,o,cs,sh⟩) (hc:cs=xs++ys) (ho:o'=o+xs.length) (h:G P K Q c ρ (⟨b,o,xs,sh⟩::⟨b,o',ys,none⟩::l.eraseIdx i) r):G P K Q c ρ l r:=
  fun a w ha=>h a w (YtekcchgffhphbaaGreatDoor.Dx i hi hc ho ha)
end
def YY (P:Program) (e:Nat) (i:TypeInfo) (fl:Field):Bool:=decide (i.size=0∧P.cellsOf e≠0∧byteOfCell P P.depth e 0=some 0∧fl.offset<P.cellsOf e∧byteOfCell P P.depth e fl.offset=some fl.byteOffset)
def fieldOff0 (P:Program) (s f e:Nat):Option Nat:=
  match P.underlying s with
  |some (.struct fs)=>match fs[f]? with
    |some fl=>match P.info? fl.type with
      |some i=>match YY P e i fl with
        |true=>some fl.offset
        |false=>none
      |none=>none
    |none=>none
  |_=>none
section
variable {P:Program} {ρ:aC} {l r:List au} {o:Oper} {s f n:Nat} {x:Operand}
theorem ajh {sg:au} {e c:Nat} (i:Nat) (hs:nthS i l=some sg) (hsh:sg.sh=some (e,c)) (ho:o.op=.fieldAddr s x f) (hx:ev ρ x=some (.pointer (some ⟨sg.b,0,none⟩))) (hP:fieldOff0 P s f e=some n):nN P ρ l r o (.pointer (some ⟨sg.b,n,none⟩)):=fun ac w ha gV=>by
  have hw:=(gV.hl sg (dw _ _ _ hs)).2.2 _ hsh;unfold fieldOff0 at hP;cases hu:P.underlying s with
  |none=>simp[hu] at hP
  |some D=>
    cases D<;>simp[hu] at hP;rename_i fs;cases hf:fs[f]? with
    |none=>simp[hf] at hP
    |some fl=>
      simp only[hf] at hP;cases hi:P.info? fl.type with
      |none=>simp[hi] at hP
      |some i=>
        simp only[hi] at hP;cases hc:YY P e i fl with
        |false=>simp[hc] at hP
        |true=>
          simp only[hc] at hP;obtain⟨h0,h1,h2,h3,h4⟩:=of_decide_eq_true hc;have hn:=Option.some.inj hP;subst hn;simp[execOp,ho,bf ha hx,Instr.fieldAt,aK hu,hf,Instr.sureAddr,fieldPlace,partAt,byteOf,noView,viewAt,sizeOf,j6 hi,h0,h1,h2,h4,hw,Nat.mod_eq_of_lt h3,Nat.div_eq_of_lt h3]
end
theorem KM {b o:Nat} {cs ds:List Value} {sh:Option (TypeId × Nat)} {n:Nat} {w:World} (h:(⟨b,o,cs,sh⟩:au).oh w) (hd:cs.take n=ds):(⟨b,o,ds,none⟩:au).oh w:=by
  subst hd;refine⟨fun j v hj=>h.1 j v ?_,fun j hj=>h.2.1 j ?_,fun x hx=>by cases hx⟩
  · grind
  · grind
theorem aI.front {P:Program} {f:FuncId} {args:List Value} {l r:List au} {dx:Value→List au→Prop} {b o n:Nat} {cs ds:List Value} {sh:Option (TypeId × Nat)} (hd:cs.take n=ds) (h:aI P f args l (⟨b,o,ds,none⟩::r) dx):aI P f args l (⟨b,o,cs,sh⟩::r) dx:=by
  have l7:∀b' j:Nat,(⟨b,o,ds,none⟩:au).has b' j→(⟨b,o,cs,sh⟩:au).has b' j:=fun b' j ⟨h1,h2,h3⟩=>⟨h1,h2,by
    grind⟩
  refine⟨h.can,fun w gV=>?_⟩;have abQ:St l (⟨b,o,ds,none⟩::r) w:=⟨gV.hl,fun s hs=>by
    rcases List.mem_cons.1 hs with h'|h'
    · subst h';exact KM (gV.hr _ List.mem_cons_self) hd
    · exact gV.hr s (List.mem_cons_of_mem _ h'),gV.pw,fun s hs t ht=>by
    rcases List.mem_cons.1 ht with h'|h'
    · subst h';exact fun b' j h1 h2=>gV.lr s hs _ List.mem_cons_self b' j h1 (l7 b' j h2)
    · exact gV.lr s hs t (List.mem_cons_of_mem _ h')⟩
  refine(h.run w abQ).mono fun e w' ⟨v,l',h1,h2,h3,h4,h5⟩=>⟨v,l',h1,h2,h3,⟨h4.hl,?_,h4.pw,?_⟩,h5⟩
  · intro s hs;exact(gV.hr s hs).iw h3 fun t ht=>gV.lr t ht s hs
  · intro s hs t ht;intro b' j h6 h7;rcases h5 s hs b' j h6 with ⟨u,hu,YQ⟩|wC
    · exact gV.lr u hu t ht b' j YQ h7
    · have:=(gV.hr t ht).lt h7;omega
theorem aI.Jp {P:Program} {f:FuncId} {args:List Value} {l r:List au} {s t:au} {dx:Value→List au→Prop} (h:aI P f args l (s::t::r) dx):aI P f args l (t::s::r) dx:=by
  have m:∀x,x ∈ s::t::r↔x ∈ t::s::r:=fun x=>by simp only[List.mem_cons];constructor<;>(rintro (h|h|h)<;>simp[h])
  refine⟨h.can,fun w gV=>?_⟩;refine(h.run w ⟨gV.hl,fun x hx=>gV.hr x ((m x).1 hx),gV.pw,fun x hx y hy=>gV.lr x hx y ((m y).1 hy)⟩).mono fun e w' ⟨v,l',h1,h2,h3,h4,h5⟩=>⟨v,l',h1,h2,h3,⟨h4.hl,fun x hx=>h4.hr x ((m x).2 hx),h4.pw,fun x hx y hy=>h4.lr x hx y ((m y).2 hy)⟩,h5⟩
section
variable {P:Program} {ρ:aC} {o:Oper} {x y:Operand} {ty bN:TypeId}
theorem wrap32 (w:Nat):(BitVec.ofInt 32 (IntKind.wrap .i32 ((w:Nat):Int))).toNat=w%2^32:=by
  rw[BitVec.toNat_ofInt];simp only[IntKind.wrap,IntKind.bits,IntKind.signed];simp;omega
theorem xt {w m n:Nat} (ho:o.op=.binOp .and ty x y bN) (hx:ev ρ x=some (.int .i32 (IntKind.wrap .i32 ((w:Nat):Int)))) (hy:ev ρ y=some (.int .i32 ((m:Nat):Int))) (hm:m=2^n-1) (hn:n≤31):aG P ρ o (.int .i32 ((w%2^n:Nat):Int)):=(uI ho hx hy).cast (by
  have hp:(2:Nat)^n≤2^31:=Nat.pow_le_pow_right Om hn;have hq:=Nat.pow_pos (n:=n) (show 0<2 by omega);have eU:=Nat.mod_lt w hq;have h2:(BitVec.ofInt 32 ((m:Nat):Int)).toNat=m:=eM 32 m Om;rw[BitVec.toNat_and,show IntKind.bits .i32=32 from rfl,wrap32,h2,hm,Nat.and_two_pow_sub_one_eq_mod,Nat.mod_mod_of_dvd _ (Nat.pow_dvd_pow 2 Om)];rw[IntWalk.i32_in _ ⟨Om,Om⟩])
end
section
variable {P:Program} {K:Kx} {Q:Exit→Act→World→Prop} {ρ:aC} {l r:List au} {L rest:List Oper} {o:Oper} {t:TypeId} {x:Operand}
theorem xu {d n:Nat} {cs:List Value} (ho:o.op=.box t x) (hx:ev ρ x=some (.agg cs.toArray)) (hl:cs.length=n) (hd:o.dst=some d) (hn:Nat.blt d K.n=true):
    kB P K ρ l r o (fun ρ' l'=>∃b,ρ'=(d,.pointer (some ⟨b,0,none⟩))::ρ∧l'=⟨b,0,cs,some (t,n)⟩::l):=hl▸NA ho hx hd hn
end
section
variable {P:Program} {ρ:aC} {o:Oper} {x y z u:Operand} {t:TypeId} {k k' k'':IntKind} {b q len cap lo hi m sz:Nat}
theorem aji {q':Nat} (ho:o.op=.slice t x (some y) (some z) (some u)) (hx:ev ρ x=some (.slice (some ⟨b,q,none⟩) len cap)) (hy:ev ρ y=some (.int k (lo:Nat))) (hz:ev ρ z=some (.int k' (hi:Nat))) (hu':ev ρ u=some (.int k'' (m:Nat))) (hP:cF P t=some sz) (h:lo≤hi∧hi≤m∧m≤cap∧lo<m) (hq:q+lo*sz=q'):aG P ρ o (.slice (some ⟨b,q',none⟩) (hi-lo) (m-lo)):=by
  subst hq;intro ac ha w;unfold cF at hP;cases hu:P.underlying t with
  |none=>simp[hu] at hP
  |some D=>
    cases D<;>simp[hu] at hP;simp[execOp,ho,bf ha hx,bf ha hy,bf ha hz,bf ha hu',Instr.sliceAt,aK hu,Instr.slice,Instr.sliceBounds,Instr.sliceBound,asIntOf,cC hP,h.1,h.2.1,h.2.2.1,dd,show¬m=lo by omega]
end
section
variable {P:Program} {K:Kx} {Q:Exit→Act→World→Prop} {ρ:aC} {l r:List au} {L rest:List Oper} {o:Oper} {d:Nat}
end
end Go.Proofs.YtekcchgffhphbaaGreatDoor
namespace Go.Proofs.YtekcchgffhphbaaGreatDoor
theorem kF.jd {xs A:List Nat} {k len i:Nat} {T:List Cell} {s:BR} (h:kF xs k len T A i s) (hb:Bytes xs) (ho:32≤s.rd→4≤s.off):kF xs k len T A i (s.jd xs k)∧(s.jd xs k).rd≤32∧s.off≤(s.jd xs k).off+4∧(s.jd xs k).off≤s.off:=by
  obtain⟨h1,h2⟩:=h.pos.jd hb ho;exact⟨⟨h1⟩,h2⟩
theorem kF.eE {xs A:List Nat} {k len i:Nat} {T:List Cell} {s:BR} (h:kF xs k len T A i s) (hb:Bytes xs):kF xs k len T A i (BR.eE xs k s)∧((BR.eE xs k s).rd≤32∨(BR.eE xs k s).off=0)∧(BR.eE xs k s).off≤s.off:=by
  obtain⟨h1,h2⟩:=h.pos.eE hb (fun _ _=>Om);exact⟨⟨h1⟩,h2⟩
theorem uW {W ys:List Nat} {j:Nat} (h:j+ys.length≤W.length):(cK W j ys).take (j+ys.length)=W.take j++ys:=by
  grind [cK]
theorem NK {text:List Nat} {i:Nat} (h:i+4≤text.length):text.take i++[text.getD i 0,text.getD (i+1) 0,text.getD (i+2) 0,text.getD (i+3) 0]=text.take (i+4):=by
  grind [iK]
theorem ajj {W text:List Nat} {i:Nat} (h:W.take i=text.take i) (hl:i+1≤W.length) (ht:i<text.length):(cK W i [text.getD i 0]).take (i+1)=text.take (i+1):=by
  have:=uW (W:=W) (ys:=[text.getD i 0]) (j:=i) (by simpa using hl);simp_all
theorem abR {W text:List Nat} {i:Nat} (h:W.take i=text.take i) (hl:i+2≤W.length) (ht:text.length=i+2):(cK W i [text.getD i 0,text.getD (i+1) 0]).take text.length=text:=by
  have:=uW (W:=W) (ys:=[text.getD i 0,text.getD (i+1) 0]) (j:=i) (by simpa using hl);rw[show i+[text.getD i 0,text.getD (i+1) 0].length=i+2 from rfl] at this;rw[ht,this,h];have h2:=iK (xs:=text) (i:=i+1) Om;grind [iK]
theorem ajk {W M text:List Nat} {i:Nat} (h:M.take i=text.take i) (hl:i≤W.length) (hM:i≤M.length):(cK W 0 (M.take i)).take i=text.take i:=by
  have:=uW (W:=W) (ys:=M.take i) (j:=0) (by rw[List.length_take];omega);grind
theorem ng (n:Nat):n&&&63=n%64:=Nat.and_two_pow_sub_one_eq_mod n 6
def xv (P C S:List Nat) (u:Nat):Prop:=∀x,x<P.length→S.getD x 0=P.getD x 0+(C.take u).count x
theorem xv.step {P C S:List Nat} {u s:Nat} (h:xv P C S u) (hu:u<C.length) (hs:C.getD u 0=s) (hS:P.length≤S.length) (kh:s<P.length):xv P C (S.set s (S.getD s 0+1)) (u+1):=fun x hx=>by
  rw[iK hu,hs,List.count_append];by_cases e:x=s
  · subst e;rw[List.count_singleton_self,mu Om,if_pos rfl,h x hx];omega
  · rw[List.count_singleton];have:(s==x)=false:=by simp;omega
    rw[uU e,h x hx];simp[this]
theorem Dy {X c m N:Nat} (h:c+m≤N):X/2^c%2^m=X%2^N/2^c%2^m:=by
  have e:(2:Nat)^N=2^c*2^(N-c):=by rw[←Nat.pow_add];congr 1;omega
  rw[e,Nat.mod_mul_right_div_self];exact(Nat.mod_mod_of_dvd _ (Nat.pow_dvd_pow 2 Om)).symm
theorem NL {xs:List Nat} (hb:Bytes xs) {k len off c m:Nat} (ho:off+4≤len) (hm:c+m≤32):eR xs (k+off)/2^c%2^m=tailV xs k len/2^(8*off+c)%2^m:=by
  have h1:=jO xs k off (len-off);rw[show off+(len-off)=len by omega] at h1;have h2:tailV xs k len/2^(8*off)=tailV xs (k+off) (len-off):=by
    rw[h1,Nat.add_mul_div_right _ _ (Nat.pow_pos Om),Nat.div_eq_of_lt (gD hb k off),Nat.zero_add]
  rw[Nat.pow_add, ←Nat.div_div_eq_div_mul,h2,Dy (N:=32) (X:=tailV xs (k+off) (len-off)) hm];have h3:=uS hb (k+off) (m:=4) (n:=len-off) Om;grind [eR,tailV,xj]
theorem nh {a b m n:Nat} (h:m≤n) (e:a%2^n=b):a%2^m=b%2^m:=by
  rw[←e];exact(Nat.mod_mod_of_dvd _ (Nat.pow_dvd_pow 2 h)).symm
theorem z6.win {xs ys bs:List Nat} {k len p off c m:Nat} (hL:z6 ys len p bs) (hb:Bytes xs) (he:tailV xs k len=tailV ys 0 len) (ho:off+4≤len) (hp:8*off+c=p) (hm:c+m≤32) (U0:m≤bs.length):eR xs (k+off)/2^c%2^m=lowV bs%2^m:=by
  rw[NL hb ho hm,hp,he];exact nh U0 hL.2
theorem F9 {a b:List Nat} (ha:om a):lowV (a++b)%2^a.length=lowV a:=by
  rw[fQ,Nat.add_mul_mod_self_left,Nat.mod_eq_of_lt (wE ha)]
theorem z6.front {xs ys a bs:List Nat} {k len p off c:Nat} (hL:z6 ys len p (a++bs)) (ha:om a) (hb:Bytes xs) (he:tailV xs k len=tailV ys 0 len) (ho:off+4≤len) (hp:8*off+c=p) (hm:c+a.length≤32):eR xs (k+off)/2^c%2^a.length=lowV a:=by
  rw[hL.win hb he ho hp hm Oi,F9 ha]
theorem NM {w di v:Nat} (h:w%2^(gW di v).length=lowV (gW di v)) (hv:v≤di) (h0:0<di):
    (w%2^(aq di-1)<2^aq di-1-di∧w%2^(aq di-1)=v∧(gW di v).length=aq di-1)∨
      (2^aq di-1-di≤w%2^(aq di-1)∧(gW di v).length=aq di∧((2^(aq di-1)≤w%2^aq di∧w%2^aq di=v+(2^aq di-1-di))∨(w%2^aq di<2^(aq di-1)∧w%2^aq di=v))):=by
  obtain⟨k,hk⟩:∃k,aq di=k+1:=⟨aq di-1,by have:=dy h0;omega⟩;have xw:=sW h0;have uw:=ir di;have hp:(2:Nat)^(k+1)=2^k*2:=Nat.pow_succ ..;by_cases h1:v<2^aq di-1-di
  · have e:gW di v=ez v (aq di-1):=if_pos h1;rw[e,bA,fH] at h;rw[hk,Nat.add_sub_cancel] at xw h ⊢;rw[hk] at uw h1;rw[Nat.mod_eq_of_lt (show v<2^k by omega)] at h;grind [bA]
  · by_cases h2:v<2^(aq di-1)
    · have e:gW di v=ez v (aq di):=by unfold gW;rw[if_neg h1,if_pos h2]
      rw[e,bA,fH] at h;have h3:=nh (show k≤aq di by omega) h;rw[hk] at uw h1 h h3;rw[hk,Nat.add_sub_cancel] at xw h2 ⊢;rw[Nat.mod_eq_of_lt (show v<2^(k+1) by omega)] at h h3;rw[Nat.mod_eq_of_lt h2] at h3;grind [bA]
    · have e:gW di v=ez (v+(2^aq di-1-di)) (aq di):=by unfold gW;rw[if_neg h1,if_neg h2]
      rw[e,bA,fH] at h;have h3:=nh (show k≤aq di by omega) h;rw[hk] at uw h1 h h3;rw[hk,Nat.add_sub_cancel] at xw h2 ⊢;have eU:v+(2^(k+1)-1-di)<2^(k+1):=Om;rw[Nat.mod_eq_of_lt eU] at h h3;have h4:(v+(2^(k+1)-1-di))%2^k=v+(2^(k+1)-1-di)-2^k:=by
        rw[Nat.mod_eq_sub_mod (show v+(2^(k+1)-1-di)≥2^k by omega),Nat.mod_eq_of_lt Om]
      grind [bA]
theorem kW {di v:Nat}:aq di-1≤(gW di v).length∧(gW di v).length≤aq di:=by
  grind [gW,bA]
theorem Wp {w z:Nat} (h:w%2^(zerosB z).length=lowV (zerosB z)):(3≤z∧w%4=3∧w/4%2^(zerosB (z-3)).length=lowV (zerosB (z-3))∧(zerosB z).length=2+(zerosB (z-3)).length)∨(z<3∧w%4=z∧(zerosB z).length=2):=by
  by_cases h3:3≤z
  · have e:=Dw h3;have hl:(zerosB z).length=2+(zerosB (z-3)).length:=by rw[e,List.length_append,bA]
    rw[hl,e,fQ,fH,bA,Nat.pow_add] at h;have h1:=congrArg (· %2^2) h;have h2:=congrArg (· /2^2) h;simp only[Nat.mod_mul_right_mod,Nat.mod_mul_right_div_self] at h1 h2;grind
  · grind [F7,bA,fH]
theorem qk:∀z,(zerosB z).length=2*(z/3)+2
  |0=>rfl
  |1=>rfl
  |2=>rfl
  |m+3=>by
    (simp[ez,zerosB,bA,qk];omega)
theorem Dz:∀z,lowV (zerosB z)+1<2^(zerosB z).length
  |0=>by decide
  |1=>by decide
  |2=>by decide
  |m+3=>by
    show lowV (ez 3 2++zerosB m)+1<2^(ez 3 2++zerosB m).length;have:=Dz m;grind [fQ,fH,bA]
theorem abS:∀n,n≤16→65535%2^n+1=2^n:=by decide
theorem KN {w z:Nat} (h:w%2^(zerosB z).length=lowV (zerosB z)) (hz:z≤20):w%65536≠65535:=fun e=>by
  grind [qk,nh,zerosB,Dz,abS]
theorem qm {n k:Nat} (h1:2^(k-1)≤n) (h2:n<2^k) (hk:1≤k):aq n=k:=by
  have a:=cL h2;have b:=ir n;have c:k-1<aq n:=(Nat.pow_lt_pow_iff_right Om).1 (Nat.lt_of_le_of_lt h1 b);omega
def bg (L n c:Nat):Nat:=if n=1 then L else if n*2^(L-(aq (n-1)-1))≤c then L-(aq (n-1)-1) else L-(aq (n-1)-1)-1
theorem z7 {n:Nat} (h:0<n):∃k,aq n=k+1∧2^k≤n∧n<2^(k+1):=by
  have h1:=dy h;have h2:=sW h;grind [ir,aq]
theorem kX {L n c:Nat} (h1:1≤n) (hn:n≤2^L) (hc:2^L≤c∧c<2^(L+1)):bg L n c≤L∧n≤c/2^bg L n c∧c/2^bg L n c<2*n:=by
  unfold bg;by_cases e:n=1
  · rw[if_pos e];subst e;have hp:0<2^L:=Nat.two_pow_pos _;refine⟨Nat.le_refl _,?_,?_⟩
    · exact(Nat.le_div_iff_mul_le hp).2 Om
    · exact(Nat.div_lt_iff_lt_mul hp).2 (by rw[Nat.pow_succ] at hc;omega)
  · rw[if_neg e];obtain⟨k,hk,k1,k2⟩:=z7 (n:=n-1) Om;rw[hk,Nat.add_sub_cancel];have hkL:k<L:=by
      apply Classical.byContradiction;intro wC;have:2^L≤2^k:=Nat.pow_le_pow_right Om Om;omega
    have e1:2^(L+1)=2^(k+1)*2^(L-k):=by rw[←Nat.pow_add];congr 1;omega
    have e2:2^L=2^(k+1)*2^(L-k-1):=by rw[←Nat.pow_add];congr 1;omega
    have e3:2^(L-k)=2*2^(L-k-1):=by
      have:2^(L-k-1+1)=2^(L-k-1)*2:=Nat.pow_succ _ _;grind
    have e4:2^(k+1)=2*2^k:=by rw[Nat.pow_succ];omega
    split
    · rename_i wC;have hp:0<2^(L-k):=Nat.two_pow_pos _;refine⟨Om,(Nat.le_div_iff_mul_le hp).2 wC,(Nat.div_lt_iff_lt_mul hp).2 ?_⟩;have:2^(k+1)*2^(L-k)≤2*n*2^(L-k):=Nat.mul_le_mul_right _ Om;omega
    · rename_i eU;have hp:0<2^(L-k-1):=Nat.two_pow_pos _;refine⟨Om,(Nat.le_div_iff_mul_le hp).2 ?_,(Nat.div_lt_iff_lt_mul hp).2 ?_⟩
      · have:n*2^(L-k-1)≤2^(k+1)*2^(L-k-1):=Nat.mul_le_mul_right _ Om;omega
      · have e5:n*2^(L-k)=2*n*2^(L-k-1):=by rw[e3, ←Nat.mul_assoc,Nat.mul_comm n 2]
        omega
theorem NN {L n c:Nat} (h1:1≤n) (hn:n≤2^L) (hc:2^L≤c∧c<2^(L+1)):
    L-(aq (c/2^bg L n c)-1)=bg L n c∧(c/2^bg L n c)*2^bg L n c-2^L+c%2^bg L n c=c-2^L∧2^L≤(c/2^bg L n c)*2^bg L n c:=by
  obtain⟨hl,ha,hb⟩:=kX h1 hn hc;generalize bg L n c=b at*;have hp:0<2^b:=Nat.two_pow_pos _;have e1:2^L=2^(L-b)*2^b:=by rw[←Nat.pow_add];congr 1;omega
  have e2:2^(L+1)=2^(L-b+1)*2^b:=by rw[←Nat.pow_add];congr 1;omega
  have h3:2^(L-b)≤c/2^b:=(Nat.le_div_iff_mul_le hp).2 Om;have h4:c/2^b<2^(L-b+1):=(Nat.div_lt_iff_lt_mul hp).2 Om;have h5:aq (c/2^b)=L-b+1:=qm (by simpa using h3) h4 Om;have h6:2^L≤(c/2^b)*2^b:=by rw[e1];exact Nat.mul_le_mul_right _ h3
  have h7:=Nat.div_add_mod c (2^b);grind
def ou (L n:Nat):Nat:=if n=1 then L*65536-2^L else (L-(aq (n-1)-1))*65536-n*2^(L-(aq (n-1)-1))
theorem F' {L n:Nat} (FC:n≠1) (h1:1≤n) (hn:n≤2^L):1≤L-(aq (n-1)-1)∧L-(aq (n-1)-1)≤L∧n*2^(L-(aq (n-1)-1))≤2^(L+1):=by
  obtain⟨k,hk,k1,k2⟩:=z7 (n:=n-1) Om;rw[hk,Nat.add_sub_cancel];have hkL:k<L:=by
    apply Classical.byContradiction;intro wC;have:2^L≤2^k:=Nat.pow_le_pow_right Om Om;omega
  have e1:2^(L+1)=2^(k+1)*2^(L-k):=by rw[←Nat.pow_add];congr 1;omega
  refine⟨Om,Om,?_⟩;rw[e1];exact Nat.mul_le_mul_right _ Om
theorem NO {L n c:Nat} (hL:1≤L∧L≤12) (h1:1≤n) (hn:n≤2^L) (hc:2^L≤c∧c<2^(L+1)):(c+ou L n)/65536=bg L n c:=by
  have Bl:2^(L+1)≤2^13:=Nat.pow_le_pow_right Om Om;grind [ou,bg,F',aq]
theorem KO {L n:Nat} (hL:1≤L∧L≤12) (h1:1≤n) (hn:n≤2^L):(((ou L n+32768)/65536)*65536-ou L n)/2^((ou L n+32768)/65536)=n∧ou L n≤((ou L n+32768)/65536)*65536:=by
  have Bl:2^(L+1)≤2^13:=Nat.pow_le_pow_right Om Om;have zh:2^L≤2^12:=Nat.pow_le_pow_right Om Om;unfold ou;by_cases e:n=1
  · rw[if_pos e,e];have e1:(L*65536-2^L+32768)/65536=L:=Om;rw[e1,show L*65536-(L*65536-2^L)=2^L by omega];exact⟨Nat.div_self (Nat.two_pow_pos _),Om⟩
  · rw[if_neg e];obtain⟨m1,m2,m3⟩:=F' e h1 hn;generalize L-(aq (n-1)-1)=m at*;have e1:(m*65536-n*2^m+32768)/65536=m:=Om;rw[e1,show m*65536-(m*65536-n*2^m)=n*2^m by omega];exact⟨Nat.mul_div_cancel _ (Nat.two_pow_pos _),Om⟩
def ni (size m:Nat):List Nat:=((List.range size).map fun j=>j*fG size%size).filter fun p=>decide (p+m<size)
def jS (size m:Nat):List Nat:=ni size m++(List.range m).map fun i=>size-1-i
def goM (size m:Nat):Nat→Nat→Nat
  |0,p=>p
  |f+1,p=>if p+m<size then p else goM size m f ((p+fG size)%size)
def stM (size m:Nat):Nat→Nat→Nat
  |0,_=>0
  |f+1,p=>if p+m<size then 0 else stM size m f ((p+fG size)%size)+1
theorem z8:∀m,m<14→(jS 32 m).Perm (List.range 32)∧(jS 64 m).Perm (List.range 64):=by decide+kernel
theorem z9:∀m,m<14→((List.range 32).map fun u=>(jS 32 m).idxOf u).Perm (List.range 32)∧((List.range 64).map fun u=>(jS 64 m).idxOf u).Perm (List.range 64):=by decide+kernel
theorem tk:∀m,m<14→((ni 32 m).length=32-m∧(ni 32 m).getD 0 0=0)∧(ni 64 m).length=64-m∧(ni 64 m).getD 0 0=0:=by decide+kernel
theorem abT:∀m,m<14→∀p,p<32→¬p+m<32→goM 32 m 32 p=goM 32 m 32 ((p+23)%32)∧stM 32 m 32 ((p+23)%32)<stM 32 m 32 p:=by decide+kernel
theorem abU:∀m,m<14→∀p,p<64→¬p+m<64→goM 64 m 64 p=goM 64 m 64 ((p+43)%64)∧stM 64 m 64 ((p+43)%64)<stM 64 m 64 p:=by decide+kernel
theorem NP:∀m,m<14→∀i,i<32-m→goM 32 m 32 (((ni 32 m).getD i 0+23)%32)=(ni 32 m).getD ((i+1)%(32-m)) 0:=by decide+kernel
theorem NQ:∀m,m<14→∀i,i<64-m→goM 64 m 64 (((ni 64 m).getD i 0+43)%64)=(ni 64 m).getD ((i+1)%(64-m)) 0:=by decide+kernel
def oZ (size m:Nat):Prop:=(size=32∨size=64)∧m<14
section
variable {size m:Nat}
theorem oZ.perm (h:oZ size m):(jS size m).Perm (List.range size):=by
  rcases h with ⟨rfl|rfl,hm⟩
  · grind [z8]
  · simp_all [z8]
theorem oZ.ajl (h:oZ size m):((List.range size).map fun u=>(jS size m).idxOf u).Perm (List.range size):=by
  rcases h with ⟨rfl|rfl,hm⟩
  · grind [z9]
  · grind [z9]
theorem oZ.len (h:oZ size m):(ni size m).length=size-m:=by
  rcases h with ⟨rfl|rfl,hm⟩
  · grind [tk]
  · simp_all [tk]
theorem oZ.first (h:oZ size m):(ni size m).getD 0 0=0:=by
  rcases h with ⟨rfl|rfl,hm⟩
  · grind [tk]
  · exact(tk m hm).2.2
theorem oZ.le (h:oZ size m):m<14∧32≤size∧size≤64:=by
  rcases h with ⟨rfl|rfl,hm⟩<;>omega
theorem NS (h:oZ size m) {p:Nat} (hp:p+m<size):goM size m size p=p:=by
  rcases h with ⟨rfl|rfl,hm⟩
  · grind [goM]
  · grind [goM]
theorem NT (h:oZ size m) {p:Nat} (hp:p<size) (hn:¬p+m<size):goM size m size p=goM size m size ((p+fG size)%size)∧stM size m size ((p+fG size)%size)<stM size m size p:=by
  rcases h with ⟨rfl|rfl,hm⟩
  · exact abT m hm p hp hn
  · exact abU m hm p hp hn
theorem ajm (h:oZ size m) {i:Nat} (hi:i<size-m):goM size m size (((ni size m).getD i 0+fG size)%size)=(ni size m).getD ((i+1)%(size-m)) 0:=by
  rcases h with ⟨rfl|rfl,hm⟩
  · exact NP m hm i hi
  · exact NQ m hm i hi
theorem oZ.abV (h:oZ size m):(jS size m).length=size:=by have:=h.perm.length_eq;simpa using this
theorem oZ.nodup (h:oZ size m):(jS size m).Nodup:=h.perm.nodup_iff.2 List.nodup_range
theorem oZ.inj (h:oZ size m) {i j:Nat} (hi:i<size) (hj:j<size) (he:(jS size m).getD i 0=(jS size m).getD j 0):i=j:=by
  have h1:i<(jS size m).length:=by rw[h.abV];exact hi
  have h2:j<(jS size m).length:=by rw[h.abV];exact hj
  simp only[List.getD_eq_getElem?_getD,List.getElem?_eq_getElem h1,List.getElem?_eq_getElem h2,Option.getD_some] at he;have hp:=List.pairwise_iff_getElem.1 h.nodup;grind
theorem oZ.met (h:oZ size m) {u:Nat} (hu:u<size):(jS size m).idxOf u<size∧(jS size m).getD ((jS size m).idxOf u) 0=u:=by
  have hm:u ∈ jS size m:=h.perm.mem_iff.2 (List.mem_range.2 hu);have h1:=List.idxOf_lt_length_iff.2 hm;refine⟨by rwa [h.abV] at h1,?_⟩;grind
theorem oZ.seq (h:oZ size m) {i:Nat} (hi:i<size-m):(jS size m).getD i 0=(ni size m).getD i 0:=by
  have:i<(ni size m).length:=by rw[h.len];exact hi
  grind [jS]
theorem oZ.back (h:oZ size m) {i:Nat} (hi:i<m):(jS size m).getD (size-m+i) 0=size-1-i:=by
  have hl:=h.len;grind [jS]
def o6 (size m:Nat) (all:List Nat):List Nat:=(List.range size).map fun u=>all.getD ((jS size m).idxOf u) 0
theorem zi (all:List Nat):(o6 size m all).length=size:=by simp[o6]
theorem Ga {all:List Nat} {u:Nat} (hu:u<size):(o6 size m all).getD u 0=all.getD ((jS size m).idxOf u) 0:=by simp[o6,List.getD_eq_getElem?_getD,hu]
theorem Bm (h:oZ size m) {all:List Nat} (ha:all.length=size) (x:Nat):(o6 size m all).count x=all.count x:=by
  have e1:all=(List.range size).map fun j=>all.getD j 0:=by
    apply List.ext_getElem (by simp[ha]);grind
  have e2:o6 size m all=((List.range size).map fun u=>(jS size m).idxOf u).map fun j=>all.getD j 0:=by rw[o6,List.map_map];rfl
  conv=>rhs;rw[e1]
  rw[e2];exact(h.ajl.map _).count_eq x
end
def nS (cs:List Int):List Nat:=flatC 0 (cs.map Int.toNat)
def bl (cs:List Int):List Nat:=flatC 0 (cs.map fun n=>(-n).toNat)
def a4 (cs:List Int):List Nat:=cs.map Int.natAbs
structure bu (log:Nat) (cs:List Int):Prop where
  lg:log=5∨log=6
  sum:(a4 cs).sum=2^log
  len:cs.length≤13
  ge:∀c ∈ cs, -1≤c
  lt:∀c ∈ cs,c<2^log
def cV (log:Nat) (cs:List Int):List Nat:=o6 (2^log) (bl cs).length (nS cs++bl cs)
def eB (log:Nat) (cs:List Int):List Cell:=buildD log (cV log cs) (a4 cs)
theorem z':∀cs:List Int,(a4 cs).sum=(cs.map Int.toNat).sum+(cs.map fun n=>(-n).toNat).sum
  |[]=>rfl
  |n::cs=>by
    have:=z' cs;grind [a4]
theorem Jq:∀cs:List Int,(∀c ∈ cs, -1≤c)→(cs.map fun n=>(-n).toNat).sum≤cs.length
  |[],_=>Nat.le_refl _
  |n::cs,h=>by
    have:=Jq cs fun c hc=>h c (List.mem_cons_of_mem _ hc)
    (simp_all;omega)
section
variable {log:Nat} {cs:List Int}
theorem kG (cs:List Int):(bl cs).length=(cs.map fun n=>(-n).toNat).sum:=uT _ _
theorem nk (cs:List Int):(nS cs).length=(cs.map Int.toNat).sum:=uT _ _
theorem bu.size (h:bu log cs):2^log=32∨2^log=64:=by rcases h.lg with h|h<;>subst h<;>simp
theorem bu.sz (h:bu log cs):oZ (2^log) (bl cs).length:=by
  refine⟨h.size,?_⟩;have:=Jq cs h.ge;have:=h.len;grind [kG]
theorem bu.all (h:bu log cs):(nS cs).length=2^log-(bl cs).length∧(nS cs++bl cs).length=2^log:=by
  have h1:=z' cs;have h2:=h.sum;grind [nk,kG]
theorem jY:(cV log cs).length=2^log:=zi _
theorem iL {f:Int→Nat} (h0:f 0=0) (cs:List Int) (i:Nat):(cs.map f).getD i 0=f (cs.getD i 0):=by
  grind
theorem tm (h:bu log cs) (x:Nat):(cV log cs).count x=(a4 cs).getD x 0:=by
  rw[cV,Bm h.sz h.all.2,List.count_append,nS,bl,oS,oS,if_pos (Nat.zero_le _),if_pos (Nat.zero_le _),Nat.sub_zero,a4,iL rfl,iL rfl,iL rfl];omega
theorem qZ:(eB log cs).length=2^log:=by rw[eB,qY,jY]
end
theorem Gb {log:Nat} {C ns:List Nat} (hC:C.length=2^log) (tq:∀x,C.count x=ns.getD x 0) (hle:∀c ∈ ns,c<2^log) (zj:1≤log) {u:Nat} (hu:u<2^log):
    ∃s k,(buildD log C ns).getD u (0,0,0)=Dv log s k∧s=C.getD u 0∧s<ns.length∧k=ns.getD s 0+(C.take u).count s∧1≤k∧k<2*2^log∧k+1≤2*ns.getD s 0∧log-(aq k-1)≤log∧2^log≤k*2^(log-(aq k-1))∧k*2^(log-(aq k-1))-2^log+2^(log-(aq k-1))≤2^log:=by
  have CZ:∀s ∈ C,s<ns.length:=fun s hs=>by
    have h1:0<C.count s:=List.count_pos_iff.2 hs;grind
  have hs:u<C.length:=by rw[hC];exact hu
  have hg:C.getD u 0=C[u]:=by simp[hs]
  have eU:C.getD u 0<ns.length:=by rw[hg];exact CZ _ (List.getElem_mem hs)
  refine⟨_,_,rH log _ ns u hs CZ,rfl,eU,rfl,?_⟩;have hc:(C.take u).count (C.getD u 0)+1≤ns.getD (C.getD u 0) 0:=by
    rw[←tq];have h1:(C.take (u+1)).count C[u]=(C.take u).count C[u]+1:=by rw[List.take_succ_eq_append_getElem hs,List.count_append,List.count_singleton_self]
    rw[hg, ←h1];exact(List.take_sublist _ _).count_le _
  generalize hs':C.getD u 0=s at*;generalize (C.take u).count s=q at*;have ajn:=hle (ns.getD s 0) (by simp[List.getD_eq_getElem?_getD,eU]);generalize ns.getD s 0=n at*;have xw:1≤n+q:=Om;have uw:n+q<2^(log+1):=by rw[Nat.pow_succ];omega
  have KP:n+q+1≤2*n:=Om;have rK:=dy (show 0<n+q by omega);have nU:=sW (show 0<n+q by omega);have uy:=ir (n+q);have hb4:=cL uw;generalize aq (n+q)=b at*;generalize n+q=k at*;have e1:(2:Nat)^log=2^(b-1)*2^(log-(b-1)):=by rw[←Nat.pow_add];congr 1;omega
  have e2:2*(2:Nat)^log=2^b*2^(log-(b-1)):=by
    rw[←Nat.pow_add,show b+(log-(b-1))=log+1 by omega,Nat.pow_succ,Nat.mul_comm]
  have h3:2^log≤k*2^(log-(b-1)):=by rw[e1];exact Nat.mul_le_mul_right _ nU
  have h4:(k+1)*2^(log-(b-1))≤2*2^log:=by rw[e2];exact Nat.mul_le_mul_right _ uy
  grind
theorem bu.Gc {log:Nat} {cs:List Int} (h:bu log cs):∀c ∈ a4 cs,c<2^log:=fun c hc=>by
  obtain⟨x,hx,rfl⟩:=List.mem_map.1 hc;have h1:=h.ge x hx;have h2:=h.lt x hx;have h3:=h.size;grind
theorem nr {log:Nat} {cs:List Int} (h:bu log cs) {u:Nat} (hu:u<2^log):
    ∃s k,(eB log cs).getD u (0,0,0)=Dv log s k∧s=(cV log cs).getD u 0∧s<cs.length∧k=(a4 cs).getD s 0+((cV log cs).take u).count s∧1≤k∧k<2*2^log∧k+1≤2*(a4 cs).getD s 0∧log-(aq k-1)≤log∧2^log≤k*2^(log-(aq k-1))∧k*2^(log-(aq k-1))-2^log+2^(log-(aq k-1))≤2^log:=by
  have:=Gb jY (tm h) h.Gc (by rcases h.lg with h|h<;>omega) hu;rw[show(a4 cs).length=cs.length by simp[a4]] at this;exact this
def occC:List Nat→Nat→Nat→Nat
  |[],_,_=>0
  |x::t,s,j=>if x=s then (if j=0 then 0 else occC t s (j-1)+1) else occC t s j+1
theorem wG:∀(C:List Nat) (s j:Nat),j<C.count s→occC C s j<C.length∧C.getD (occC C s j) 0=s∧(C.take (occC C s j)).count s=j
  |[],s,j,h=>by simp at h
  |x::t,s,j,h=>by
    unfold occC;rw[List.count_cons] at h;by_cases e:x=s
    · rw[if_pos e];by_cases e2:j=0
      · grind
      · rw[if_neg e2];rw[if_pos (by simpa using e)] at h;obtain⟨h1,h2,h3⟩:=wG t s (j-1) Om;grind
    · rw[if_neg e];rw[if_neg (by simpa using e)] at h;obtain⟨h1,h2,h3⟩:=wG t s j Om;grind
theorem Jr:∀(C:List Nat) (u:Nat),u<C.length→occC C (C.getD u 0) ((C.take u).count (C.getD u 0))=u
  |[],u,h=>by simp at h
  |x::t,0,h=>by simp[occC]
  |x::t,u+1,h=>by
    have hu:u<t.length:=by simpa using h
    have ih:=Jr t u hu;grind [occC]
def DA (L:Nat) (C ns:List Nat) (s c:Nat):Nat:=occC C s ((c+2^L)/2^bg L (ns.getD s 0) (c+2^L)-ns.getD s 0)
def encA (L:Nat) (C ns:List Nat):List Nat→List Nat
  |[]=>[]
  |s::t=>(if (encA L C ns t).length<2 then occC C s 0 else DA L C ns s ((encA L C ns t).getD 1 0))::encA L C ns t
theorem fS (L:Nat) (C ns:List Nat):∀t:List Nat,(encA L C ns t).length=t.length
  |[]=>rfl
  |s::t=>by simp[encA,fS L C ns t]
structure iM (L:Nat) (C ns:List Nat):Prop where
  lg:1≤L∧L≤12
  len:C.length=2^L
  cnt:∀x,C.count x=ns.getD x 0
  lt:∀c ∈ ns,c<2^L
section
variable {L:Nat} {C ns:List Nat}
theorem iM.le (h:iM L C ns) (s:Nat):ns.getD s 0<2^L:=by
  rcases Nat.lt_or_ge s ns.length with hs|hs
  · exact h.lt _ (by simp[List.getD_eq_getElem?_getD,hs])
  · grind
theorem iM.in (h:iM L C ns):∀s ∈ C,s<ns.length:=fun s hs=>by
  have h1:0<C.count s:=List.count_pos_iff.2 hs;rw[h.cnt] at h1;grind
theorem iM.occ (h:iM L C ns) {s j:Nat} (hj:j<ns.getD s 0):occC C s j<2^L∧(buildD L C ns).getD (occC C s j) (0,0,0)=Dv L s (ns.getD s 0+j):=by
  obtain⟨h1,h2,h3⟩:=wG C s j (by rw[h.cnt];exact hj);refine⟨by rwa [h.len] at h1,?_⟩;rw[rH L C ns _ h1 h.in,h2,h3]
theorem iM.step (h:iM L C ns) {s c:Nat} (hs:1≤ns.getD s 0) (hc:c<2^L):DA L C ns s c<2^L∧((buildD L C ns).getD (DA L C ns s c) (0,0,0)).1=s∧
    ((buildD L C ns).getD (DA L C ns s c) (0,0,0)).2.1=bg L (ns.getD s 0) (c+2^L)∧((buildD L C ns).getD (DA L C ns s c) (0,0,0)).2.2+(c+2^L)%2^bg L (ns.getD s 0) (c+2^L)=c:=by
  have hn:=h.le s;have hcc:2^L≤c+2^L∧c+2^L<2^(L+1):=by rw[Nat.pow_succ];omega
  obtain⟨e1,e2,e3⟩:=kX hs (Nat.le_of_lt hn) hcc;obtain⟨b1,b2,b3⟩:=NN hs (Nat.le_of_lt hn) hcc;obtain⟨o1,o2⟩:=h.occ (s:=s) (j:=(c+2^L)/2^bg L (ns.getD s 0) (c+2^L)-ns.getD s 0) Om;unfold DA;rw[o2,Nat.add_sub_cancel' e2];refine⟨o1,rfl,b1,?_⟩;show _*2^(L-(aq _-1))-2^L+_=_;rw[b1];omega
theorem ts (i:Nat) (t:List Nat) (hi:i+2<t.length):(encA L C ns t).getD i 0=DA L C ns (t.getD i 0) ((encA L C ns t).getD (i+2) 0):=by
  induction i generalizing t with
  |zero=>
    match t,hi with
    |s::t,hi=>
      grind [fS,encA]
  |succ i ih=>
    match t,hi with
    |s::t,hi=>
      grind [encA]
theorem uX (i:Nat) (t:List Nat) (hi:i<t.length) (h2:t.length≤i+2):(encA L C ns t).getD i 0=occC C (t.getD i 0) 0:=by
  induction i generalizing t with
  |zero=>
    match t,hi with
    |s::t,hi=>
      grind [fS,encA]
  |succ i ih=>
    match t,hi with
    |s::t,hi=>
      grind [encA]
theorem iM.Gd (h:iM L C ns):∀t:List Nat,(∀s ∈ t,1≤ns.getD s 0)→∀a ∈ encA L C ns t,a<2^L
  |[],_,a,ha=>by simp[encA] at ha
  |s::t,hs,a,ha=>by
    have ih:=h.Gd t fun x hx=>hs x (List.mem_cons_of_mem _ hx)
    have h1:=hs s List.mem_cons_self;simp only[encA,List.mem_cons] at ha;rcases ha with rfl|ha
    · split
      · exact(h.occ Om).1
      · rename_i hl;refine(h.step h1 ?_).1;have:1<(encA L C ns t).length:=Om;simp_all
    · exact ih a ha
theorem iM.Bn (h:iM L C ns) {t:List Nat} (hs:∀s ∈ t,1≤ns.getD s 0) (i:Nat):(encA L C ns t).getD i 0<2^L:=by
  rcases Nat.lt_or_ge i (encA L C ns t).length with hi|hi
  · exact h.Gd t hs _ (by simp[List.getD_eq_getElem?_getD,hi])
  · grind
theorem iM.text (h:iM L C ns) {t:List Nat} (hs:∀s ∈ t,1≤ns.getD s 0) (h2:2≤t.length):kV L (buildD L C ns) t (encA L C ns t):=by
  have hg:∀i,i<t.length→1≤ns.getD (t.getD i 0) 0:=fun i hi=>hs _ (by simp[List.getD_eq_getElem?_getD,hi])
  refine⟨fS L C ns t,h2,h.Gd t hs,fun i hi=>?_,fun i hi=>?_⟩
  · rcases Nat.lt_or_ge (i+2) t.length with h'|h'
    · rw[ts i t h'];exact(h.step (hg i hi) (h.Bn hs _)).2.1
    · rw[uX i t hi h',(h.occ (hg i hi)).2];rfl
  · have hc:=h.Bn hs (i+2);obtain⟨_,_,s3,s4⟩:=h.step (hg i Om) hc;rw[ts i t hi,s3];omega
theorem iM.ends (h:iM L C ns) {t:List Nat} (hs:∀s ∈ t,1≤ns.getD s 0) (i:Nat) (hi:i<t.length) (h2:t.length≤i+2):1≤((buildD L C ns).getD ((encA L C ns t).getD i 0) (0,0,0)).2.1:=by
  have hg:1≤ns.getD (t.getD i 0) 0:=hs _ (by simp[List.getD_eq_getElem?_getD,hi]);rw[uX i t hi h2,(h.occ hg).2];show 1≤L-(aq (ns.getD (t.getD i 0) 0+0)-1);have h3:=h.le (t.getD i 0);have h4:=cL h3;grind
theorem iM.bits (h:iM L C ns) {t:List Nat} (hs:∀s ∈ t,1≤ns.getD s 0) {i:Nat} (hi:i+2<t.length):
    fN (buildD L C ns) ((encA L C ns t).drop i)=bg L (ns.getD (t.getD i 0) 0) ((encA L C ns t).getD (i+2) 0+2^L)+fN (buildD L C ns) ((encA L C ns t).drop (i+1))∧
    fR (buildD L C ns) ((encA L C ns t).drop i)=((encA L C ns t).getD (i+2) 0+2^L)%2^bg L (ns.getD (t.getD i 0) 0) ((encA L C ns t).getD (i+2) 0+2^L)*2^fN (buildD L C ns) ((encA L C ns t).drop (i+1))+fR (buildD L C ns) ((encA L C ns t).drop (i+1)):=by
  have hg:1≤ns.getD (t.getD i 0) 0:=hs _ (by simp[List.getD_eq_getElem?_getD,show i<t.length by omega]);obtain⟨e1,e2⟩:=td (T:=buildD L C ns) (at_:=encA L C ns t) (i:=i) (by rw[fS];exact hi);obtain⟨_,_,s3,s4⟩:=h.step hg (h.Bn hs (i+2));grind [ts]
end
theorem bu.laid {log:Nat} {cs:List Int} (h:bu log cs):iM log (cV log cs) (a4 cs):=⟨by rcases h.lg with h|h<;>omega,jY,tm h,h.Gc⟩
def dI (ns:List Nat) (s:Nat):Nat:=(ns.take s).sum
theorem dZ {ns:List Nat} {s:Nat}:dI ns (s+1)=dI ns s+ns.getD s 0:=by
  unfold dI;rcases Nat.lt_or_ge s ns.length with h|h
  · rw[List.take_succ_eq_append_getElem h,List.sum_append];simp[List.getD_eq_getElem?_getD,h]
  · rw[List.take_of_length_le h,List.take_of_length_le Om,List.getD_eq_getElem?_getD,List.getElem?_eq_none h];rfl
theorem uY {ns:List Nat} {s t:Nat} (h:s<t):dI ns s+ns.getD s 0≤dI ns t:=by
  induction t with
  |zero=>omega
  |succ t ih=>
    grind [dZ]
theorem DB (ns:List Nat):dI ns ns.length=ns.sum:=by unfold dI;rw[List.take_length]
theorem kH {ns:List Nat} {s:Nat}:dI ns s≤ns.sum:=by
  unfold dI;have:=congrArg List.sum (List.take_append_drop s ns);grind
theorem NU {ns:List Nat} {s t i j:Nat} (hi:i<ns.getD s 0) (hj:j<ns.getD t 0) (h:dI ns s+i=dI ns t+j):s=t∧i=j:=by
  rcases Nat.lt_trichotomy s t with h1|h1|h1
  · have:=uY (ns:=ns) h1;omega
  · grind
  · have:=uY (ns:=ns) h1;omega
def tu (Z:Nat) (C ns S:List Nat) (u:Nat):Prop:=∀w,w<u→S.getD (dI ns (C.getD w 0)+(C.take w).count (C.getD w 0)) 0=Z+w
def mw (C ns M:List Nat) (u:Nat):Prop:=∀s,s<ns.length→M.getD s 0=dI ns s+(C.take u).count s
theorem iu {C:List Nat} {u:Nat} (hu:u<C.length) (s:Nat):(C.take (u+1)).count s=(C.take u).count s+if C.getD u 0=s then 1 else 0:=by
  rw[List.take_succ_eq_append_getElem hu,List.count_append,List.count_singleton];grind
theorem lL {C ns:List Nat} (tq:∀x,C.count x=ns.getD x 0) {u:Nat} (hu:u<C.length):(C.take u).count (C.getD u 0)<ns.getD (C.getD u 0) 0:=by
  have h1:=iu hu (C.getD u 0);rw[if_pos rfl] at h1;have h2:=(List.take_sublist (u+1) C).count_le (C.getD u 0);grind
theorem tu.step {Z u:Nat} {C ns S:List Nat} (h:tu Z C ns S u) (tq:∀x,C.count x=ns.getD x 0) (hu:u<C.length) (hS:dI ns (C.getD u 0)+(C.take u).count (C.getD u 0)<S.length):tu Z C ns (S.set (dI ns (C.getD u 0)+(C.take u).count (C.getD u 0)) (Z+u)) (u+1):=fun w hw=>by
  rw[aS hS];split
  · rename_i e;have Wc:w<C.length:=Om;obtain⟨e1,e2⟩:=NU (lL tq hu) (lL tq Wc) e;grind [occC,Jr]
  · rename_i e;refine h w (Nat.lt_of_le_of_ne Om fun hh=>e ?_);rw[hh]
theorem mw.step {u:Nat} {C ns M:List Nat} (h:mw C ns M u) (hu:u<C.length) (jz:C.getD u 0<ns.length) (hM:ns.length≤M.length):mw C ns (M.set (C.getD u 0) (M.getD (C.getD u 0) 0+1)) (u+1):=fun s hs=>by
  rw[aS Om,iu hu];have h0:=h s hs;grind
theorem tu.get {Z:Nat} {C ns S:List Nat} (h:tu Z C ns S C.length) (tq:∀x,C.count x=ns.getD x 0) {s j:Nat} (hj:j<ns.getD s 0):S.getD (dI ns s+j) 0=Z+occC C s j:=by
  obtain⟨h1,h2,h3⟩:=wG C s j (by rw[tq];exact hj);have:=h _ h1;grind
def fillT (L:Nat):Nat→List Nat→List Nat→List Nat→List Nat
  |_,[],_,dt=>dt
  |n,w::ws,r,dt=>if w=0 then fillT L (n+1) ws r dt else fillT L (n+1) ws (r.set w (r.getD w 0+2^(w-1))) (cK dt (r.getD w 0) (List.replicate (2^(w-1)) (L+1-w+256*n)))
def YZ (r ws:List Nat) (w v:Nat):Prop:=0<w∧r.getD w 0≤v∧v<r.getD w 0+ws.count w*2^(w-1)
structure je (r ws dt:List Nat):Prop where
  Wq:r.length=16
  Y0:∀w ∈ ws,w<16
  fit:∀w,0<w→w ∈ ws→r.getD w 0+ws.count w*2^(w-1)≤dt.length
  dis:∀w w' v,YZ r ws w v→YZ r ws w' v→w=w'
theorem DC {n v q:Nat} (h:q<n):(List.replicate n v).getD q 0=v:=by simp[List.getD_eq_getElem?_getD,h]
theorem je.skip {r ws dt:List Nat} (h:je r (0::ws) dt):je r ws dt:=by
  have hc:∀w,0<w→(0::ws).count w=ws.count w:=fun w hw=>by rw[List.count_cons_of_ne Om]
  refine⟨h.Wq,fun w hw=>h.Y0 w (List.mem_cons_of_mem _ hw),fun w h0 h1=>by rw[←hc w h0];exact h.fit w h0 (List.mem_cons_of_mem _ h1),fun w w' v h1 h2=>h.dis w w' v ?_ ?_⟩
  · exact⟨h1.1,h1.2.1,by rw[hc w h1.1];exact h1.2.2⟩
  · exact⟨h2.1,h2.2.1,by rw[hc w' h2.1];exact h2.2.2⟩
theorem tv {r ws:List Nat} {w x v:Nat} (hr:r.length=16) (hw:w<16) (h0:0<w) (h:YZ (r.set w (r.getD w 0+2^(w-1))) ws x v):YZ r (w::ws) x v∧(x=w→r.getD w 0+2^(w-1)≤v):=by
  obtain⟨h1,h2,h3⟩:=h;rw[gg Om] at h2 h3;by_cases e:w=x
  · subst e;rw[if_pos rfl] at h2 h3;refine⟨⟨h1,Nat.le_trans (Nat.le_add_right _ _) h2,?_⟩,fun _=>h2⟩;rw[List.count_cons_self,Nat.add_mul,Nat.one_mul];omega
  · rw[if_neg e] at h2 h3;exact⟨⟨h1,h2,by rw[List.count_cons_of_ne Om];exact h3⟩,fun h=>(e h.symm).elim⟩
theorem je.KQ {r ws dt:List Nat} {w:Nat} (h:je r (w::ws) dt) (h0:0<w):r.getD w 0+2^(w-1)≤dt.length:=by
  have:=h.fit w h0 List.mem_cons_self;rw[List.count_cons_self,Nat.add_mul,Nat.one_mul] at this;omega
theorem je.step {r ws dt dt':List Nat} {w:Nat} (h:je r (w::ws) dt) (h0:0<w) (hd:dt'.length=dt.length):je (r.set w (r.getD w 0+2^(w-1))) ws dt':=by
  have hw:=h.Y0 w List.mem_cons_self;refine⟨by simp[h.Wq],fun x hx=>h.Y0 x (List.mem_cons_of_mem _ hx),fun x Jt hx=>?_,fun x y v h1 h2=>h.dis x y v (tv h.Wq hw h0 h1).1 (tv h.Wq hw h0 h2).1⟩;have:=h.fit x Jt (List.mem_cons_of_mem _ hx);rw[gg (by rw[h.Wq];exact hw),hd];by_cases e:w=x
  · subst e;rw[List.count_cons_self,Nat.add_mul,Nat.one_mul] at this;grind
  · grind
theorem nu {L:Nat}:∀(ws r dt:List Nat) (n:Nat),je r ws dt→(fillT L n ws r dt).length=dt.length
  |[],r,dt,n,_=>rfl
  |w::ws,r,dt,n,h=>by
    unfold fillT;by_cases e:w=0
    · subst e;rw[if_pos rfl];exact nu ws r dt _ h.skip
    · rw[if_neg e];have hl:(cK dt (r.getD w 0) (List.replicate (2^(w-1)) (L+1-w+256*n))).length=dt.length:=aV (by simp;exact h.KQ Om);rw[nu ws _ _ _ (h.step Om hl),hl]
theorem uZ {L:Nat}:∀(ws r dt:List Nat) (n v:Nat),je r ws dt→(∀w,¬YZ r ws w v)→(fillT L n ws r dt).getD v 0=dt.getD v 0
  |[],r,dt,n,v,_,_=>rfl
  |w::ws,r,dt,n,v,h,hv=>by
    unfold fillT;by_cases e:w=0
    · subst e;rw[if_pos rfl];refine uZ ws r dt _ v h.skip fun x hx=>hv x ⟨hx.1,hx.2.1,?_⟩
      have h1:=hx.1;rw[List.count_cons_of_ne Om];exact hx.2.2
    · rw[if_neg e];have zj:=h.KQ Om;have hl:(cK dt (r.getD w 0) (List.replicate (2^(w-1)) (L+1-w+256*n))).length=dt.length:=aV (by simp;exact zj);rw[uZ ws _ _ _ v (h.step Om hl) fun x hx=>hv x (tv h.Wq (h.Y0 w List.mem_cons_self) Om hx).1];rw[mv (by simp;exact zj),if_neg];intro ⟨h1,h2⟩;rw[List.length_replicate] at h2;refine hv w ⟨Om,h1,Nat.lt_of_lt_of_le h2 ?_⟩;rw[List.count_cons_self,Nat.add_mul,Nat.one_mul];omega
theorem xx {L:Nat}:∀(ws r dt:List Nat) (n s v:Nat),je r ws dt→s<ws.length→0<ws.getD s 0→r.getD (ws.getD s 0) 0+(ws.take s).count (ws.getD s 0)*2^(ws.getD s 0-1)≤v→
      v<r.getD (ws.getD s 0) 0+((ws.take s).count (ws.getD s 0)+1)*2^(ws.getD s 0-1)→(fillT L n ws r dt).getD v 0=L+1-ws.getD s 0+256*(n+s)
  |[],r,dt,n,s,v,_,hs,_,_,_=>by simp at hs
  |w::ws,r,dt,n,0,v,h,hs,h0,h1,h2=>by
    simp only[List.getD_cons_zero,List.take_zero,List.count_nil,Nat.zero_mul,Nat.add_zero,Nat.zero_add,Nat.one_mul] at h0 h1 h2 ⊢;unfold fillT;rw[if_neg Om];have zj:=h.KQ h0;have hl:(cK dt (r.getD w 0) (List.replicate (2^(w-1)) (L+1-w+256*n))).length=dt.length:=aV (by simp;exact zj);rw[uZ ws _ _ _ v (h.step h0 hl) fun x hx=>?_]
    · grind [mv,DC]
    · obtain⟨NV,y5⟩:=tv h.Wq (h.Y0 w List.mem_cons_self) h0 hx;have hw:YZ r (w::ws) w v:=⟨h0,h1,by rw[List.count_cons_self,Nat.add_mul,Nat.one_mul];omega⟩;have:=h.dis x w v NV hw;omega
  |w::ws,r,dt,n,s+1,v,h,hs,h0,h1,h2=>by
    simp only[List.getD_cons_succ,List.take_succ_cons] at h0 h1 h2 ⊢;have hs':s<ws.length:=by simpa using hs
    unfold fillT;rw[show n+(s+1)=n+1+s by omega];by_cases e:w=0
    · subst e;rw[if_pos rfl];rw[List.count_cons_of_ne Om] at h1 h2;exact xx ws r dt (n+1) s v h.skip hs' h0 h1 h2
    · rw[if_neg e];have zj:=h.KQ Om;have hl:(cK dt (r.getD w 0) (List.replicate (2^(w-1)) (L+1-w+256*n))).length=dt.length:=aV (by simp;exact zj);refine xx ws _ _ (n+1) s v (h.step Om hl) hs' h0 ?_ ?_
      · rw[gg (by rw[h.Wq];exact h.Y0 w List.mem_cons_self)];by_cases e2:w=ws.getD s 0
        · rw[if_pos e2];rw[e2,List.count_cons_self,Nat.add_mul,Nat.one_mul] at h1;rw[e2];omega
        · grind
      · rw[gg (by rw[h.Wq];exact h.Y0 w List.mem_cons_self)];grind
def startW (ws:List Nat):Nat→Nat
  |0=>0
  |w+1=>startW ws w+(if w=0 then 0 else ws.count w*2^(w-1))
theorem eF (ws:List Nat) {a b:Nat} (h:a≤b):startW ws a≤startW ws b:=by
  induction b with
  |zero=>
    grind
  |succ b ih=>
    rcases Nat.lt_or_ge a (b+1) with h'|h'
    · exact Nat.le_trans (ih Om) (Nat.le_add_right _ _)
    · grind
theorem fU {ws:List Nat} {w:Nat} (h:0<w):startW ws (w+1)=startW ws w+ws.count w*2^(w-1):=by
  grind [startW]
theorem xy (ws:List Nat) {w:Nat} (h0:0<w):∀m,w≤m→2^(w-1)∣startW ws m-startW ws w
  |0,h=>by omega
  |m+1,h=>by
    rcases Nat.lt_or_ge w (m+1) with h'|h'
    · have ih:=xy ws h0 m Om;rw[fU Om];have hm:=eF ws (show w≤m by omega);rw[show startW ws m+ws.count m*2^(m-1)-startW ws w=(startW ws m-startW ws w)+ws.count m*2^(m-1) by omega];refine Nat.dvd_add ih (Nat.dvd_mul_left_of_dvd (Nat.pow_dvd_pow 2 Om) _)
    · have:w=m+1:=Om;simp_all
def DD (L:Nat) (ws:List Nat) (s:Nat):Nat × Nat:=(L+1-ws.getD s 0,startW ws (ws.getD s 0)/2^(ws.getD s 0-1)+(ws.take s).count (ws.getD s 0))
theorem zk {ws:List Nat} {s:Nat} (hs:s<ws.length):(ws.take s).count (ws.getD s 0)+1≤ws.count (ws.getD s 0):=by
  have hg:ws.getD s 0=ws[s]:=by simp[hs]
  have h1:(ws.take (s+1)).count ws[s]=(ws.take s).count ws[s]+1:=by rw[List.take_succ_eq_append_getElem hs,List.count_append,List.count_singleton_self]
  rw[hg, ←h1];exact(List.take_sublist _ _).count_le _
theorem xz {L:Nat} {ws r dt:List Nat} (hL:1≤L) (ov:L≤11) (hlen:ws.length≤256) (hw:∀w ∈ ws,w≤L) (hr:r.length=16) (gV:∀w,0<w→w≤L→r.getD w 0=startW ws w) (rL:startW ws (L+1)=2^L) (hdt:dt.length=2048):
    wg (fillT L 0 ws r dt) L (DD L ws) (fun s=>s<ws.length∧0<ws.getD s 0)∧(fillT L 0 ws r dt).length=2048:=by
  have pos:∀m:Nat,0<2^m:=fun m=>Nat.pow_pos Om
  have Y4:(2:Nat)^L≤2^11:=Nat.pow_le_pow_right Om ov;have abW:∀w,L<w→ws.count w=0:=fun w h=>List.count_eq_zero.2 fun hm=>by have:=hw w hm;omega
  have DE:∀w v,YZ r ws w v→w≤L∧startW ws w≤v∧v<startW ws (w+1):=fun w v h=>by
    rcases Nat.lt_or_ge L w with h'|h'
    · have:=h.2.2;rw[abW w h'] at this;have:=h.2.1;omega
    · have h1:=h.2.1;have h2:=h.2.2;rw[gV w h.1 h'] at h1 h2;exact⟨h',h1,by rw[fU h.1];exact h2⟩
  have ok:je r ws dt:=by
    refine⟨hr,fun w h=>by have:=hw w h;omega,fun w h0 CE=>?_,fun w w' v h1 h2=>?_⟩
    · have h':=hw w CE;rw[gV w h0 h', ←fU h0];have:=eF ws (show w+1≤L+1 by omega);omega
    · obtain⟨_,a1,a2⟩:=DE w v h1;obtain⟨_,b1,b2⟩:=DE w' v h2;rcases Nat.lt_trichotomy w w' with h|h|h
      · have:=eF ws (show w+1≤w' by omega);omega
      · exact h
      · have:=eF ws (show w'+1≤w by omega);omega
  refine⟨⟨hL,ov,fun s hs=>?_,fun s hs v hv he=>?_⟩,by rw[nu ws r dt 0 ok];exact hdt⟩;all_goals
    have hm:ws.getD s 0≤L:=hw _ (by simp[hs.1]);have hdv:=xy ws hs.2 (L+1) Om;have hle:=eF ws (show ws.getD s 0≤L+1 by omega);have Ws:=eF ws (show ws.getD s 0+1≤L+1 by omega);rw[fU hs.2] at Ws;have hc:=zk hs.1;rw[rL] at hdv hle Ws;have h2:2^(ws.getD s 0-1)∣startW ws (ws.getD s 0):=by
      have:=Nat.dvd_sub (Nat.pow_dvd_pow 2 (show ws.getD s 0-1≤L by omega)) hdv;rwa [show 2^L-(2^L-startW ws (ws.getD s 0))=startW ws (ws.getD s 0) by omega] at this
    obtain⟨q,hq⟩:=h2;have hqd:startW ws (ws.getD s 0)/2^(ws.getD s 0-1)=q:=by rw[hq,Nat.mul_div_cancel_left _ (pos _)]
    have hqm:startW ws (ws.getD s 0)=q*2^(ws.getD s 0-1):=by rw[hq,Nat.mul_comm]
  · refine⟨Om,by show 1≤L+1-_;omega,by show L+1-_≤L;omega,?_⟩;show startW ws (ws.getD s 0)/2^(ws.getD s 0-1)+_<2^(L+1-ws.getD s 0);rw[hqd];have e:(2:Nat)^L=2^(L+1-ws.getD s 0)*2^(ws.getD s 0-1):=by rw[←Nat.pow_add];congr 1;omega
    rw[hqm,e, ←Nat.add_mul] at Ws;have:=Nat.le_of_mul_le_mul_right Ws (pos _);omega
  · have e1:L-(DD L ws s).1=ws.getD s 0-1:=by show L-(L+1-ws.getD s 0)=_;omega
    rw[e1] at he;have e2:(DD L ws s).2=q+(ws.take s).count (ws.getD s 0):=by show _/_+_=_;rw[hqd]
    rw[e2] at he;have wc:(q+(ws.take s).count (ws.getD s 0))*2^(ws.getD s 0-1)≤v:=by rw[←he];exact Nat.div_mul_le_self _ _
    have vx:v<(q+(ws.take s).count (ws.getD s 0)+1)*2^(ws.getD s 0-1):=by
      rw[←he];exact Nat.lt_mul_of_div_lt (Nat.lt_succ_self _) (pos _)
    rw[Nat.add_assoc,Nat.add_mul, ←hqm] at vx;rw[Nat.add_mul, ←hqm] at wc;have:=xx (L:=L) ws r dt 0 s v ok hs.1 hs.2 (by rw[gV _ hs.2 hm];exact wc) (by rw[gV _ hs.2 hm];exact vx);rw[this];show _=L+1-_+_;omega
def kI (ls:List Nat) (L last:Nat):List Nat:=(ls.take (last+1)).map (uV L)
theorem HW.Ju {ls:List Nat} {L last:Nat} (h:HW ls L last) (i:Nat):ls.getD i 0≤L:=h.le.at_ i
theorem HW.L1 {ls:List Nat} {L last:Nat} (h:HW ls L last):1≤L:=by
  have:=h.Ju last;have:=h.nz;omega
theorem Wt {L a b:Nat} (ha:a≤L) (hb:b≤L) (h:uV L a=uV L b):a=b:=by
  grind [uV]
theorem u0 {L n:Nat} (hn:n≤L):∀xs:List Nat,dW xs L→(xs.map (uV L)).count (uV L n)=xs.count n
  |[],_=>rfl
  |x::xs,h=>by
    have ih:=u0 hn xs (fun y hy=>h y (List.mem_cons_of_mem _ hy));have hx:=h x List.mem_cons_self;grind [uV,Wt]
theorem dW.NW {xs:List Nat} {b:Nat} (h:dW xs b) (i:Nat):dW (xs.take i) b:=fun x hx=>h x (List.mem_of_mem_take hx)
theorem vF {ls:List Nat} {L last:Nat} (h:HW ls L last):(kI ls L last).length=last+1:=by
  have:=h.lt;simp[kI];omega
theorem DF {ls:List Nat} {L last s:Nat} (h:HW ls L last) (hs:s≤last):(kI ls L last).getD s 0=uV L (ls.getD s 0):=by
  have:=h.lt;grind [kI]
theorem Bo {ls:List Nat} {L last:Nat}:∀w ∈ kI ls L last,w≤L:=fun w hw=>by
  grind [kI,uV]
theorem Aa {ls:List Nat} {L last:Nat} (h:HW ls L last):∀x ∈ ls.drop (last+1),x=0:=fun x hx=>by
  obtain⟨i,hi,rfl⟩:=List.getElem_of_mem hx;have:=h.z (last+1+i) Om;grind
theorem DG {ls:List Nat} {L last n:Nat} (h:HW ls L last) (hn:1≤n):(ls.take (last+1)).count n=ls.count n:=by
  have e:ls.count n=(ls.take (last+1)).count n+(ls.drop (last+1)).count n:=by rw[←List.count_append,List.take_append_drop]
  have:(ls.drop (last+1)).count n=0:=List.count_eq_zero.2 fun hm=>by have:=Aa h n hm;omega
  omega
theorem xA {ls:List Nat} {L last n:Nat} (h:HW ls L last) (hn:1≤n) (hnL:n≤L):(kI ls L last).count (L+1-n)=ls.count n:=by
  have e:L+1-n=uV L n:=by unfold uV;rw[if_neg Om]
  rw[e,kI,u0 hnL _ (h.le.NW _),DG h hn]
theorem Jv {ls:List Nat} {L:Nat} (h:dW ls L):∀d,d+L≤11→nx ls d=0
  |0,_=>rfl
  |d+1,hd=>by
    have h0:ls.count (11-d)=0:=List.count_eq_zero.2 fun hm=>by have:=h _ hm;omega
    simp only[nx,Jv h d Om,h0]
theorem wH {ls:List Nat} {L:Nat} (h:dW ls L) (hL:L≤11):CF ls L=0:=Jv h _ Om
theorem Ab {ls:List Nat} {L last:Nat} (h:HW ls L last) (hL:L≤11) (he:gS ls):∀w,1≤w→w≤L+1→startW (kI ls L last) w=CF ls (L+1-w)*2^(w-1)
  |0,h0,_=>by omega
  |1,_,_=>by rw[Nat.add_sub_cancel,wH h.le hL];simp[startW]
  |w+2,_,hw=>by
    have ih:=Ab h hL he (w+1) Om Om;rw[fU Om,ih];have hc:=xA h (n:=L-w) Om Om;rw[show L+1-(L-w)=w+1 by omega] at hc;have hp:=xr ls (m:=L-w) Om Om;have hv:=he (L-w) Om Om;rw[hc,show L+1-(w+1)=L-w by omega,show L+1-(w+2)=L-w-1 by omega,hp,Nat.add_sub_cancel,show w+2-1=w+1 by omega,Nat.pow_succ, ←Nat.add_mul];generalize CF ls (L-w)+ls.count (L-w)=q at hv;obtain⟨r,rfl⟩:∃r,q=r*2:=⟨q/2,Om⟩;grind
theorem Wu {ls:List Nat} {L last s:Nat} (h:HW ls L last) (hL:L≤11) (he:gS ls) (hs:1≤ls.getD s 0):DD L (kI ls L last) s=lv ls s∧s≤last:=by
  have kh:s≤last:=Classical.byContradiction fun hn=>by have:=h.z s Om;omega
  have hn:=h.Ju s;refine⟨?_,kh⟩;have hg:=DF h kh;have hw:uV L (ls.getD s 0)=L+1-ls.getD s 0:=by unfold uV;rw[if_neg Om]
  unfold DD lv kf;rw[hg];refine Prod.ext (by rw[hw];omega) ?_;show startW _ _/_+_=_;rw[hw,Ab h hL he _ Om Om,Nat.mul_div_cancel _ (Nat.pow_pos Om),show L+1-(L+1-ls.getD s 0)=ls.getD s 0 by omega];congr 1;have e:(kI ls L last).take s=(ls.take s).map (uV L):=by
    rw[kI, ←List.map_take,List.take_take,Nat.min_eq_left Om]
  rw[e, ←hw,u0 hn _ (h.le.NW _)]
def cellsW:List Nat→Nat
  |[]=>0
  |w::ws=>(if w=0 then 0 else 2^(w-1))+cellsW ws
theorem q5:∀a b:List Nat,cellsW (a++b)=cellsW a+cellsW b
  |[],b=>by simp[cellsW]
  |x::a,b=>by simp only[List.cons_append,cellsW,q5 a b];omega
theorem xC:∀m,startW [] m=0
  |0=>rfl
  |m+1=>by simp only[startW,xC m];split<;>simp
theorem vG (x:Nat) (ws:List Nat):∀m,startW (x::ws) m=startW ws m+(if x=0∨m≤x then 0 else 2^(x-1))
  |0=>by simp[startW]
  |m+1=>by
    simp only[startW,vG x ws m];grind
theorem kY {L:Nat}:∀ws:List Nat,(∀w ∈ ws,w≤L)→startW ws (L+1)=cellsW ws
  |[],_=>xC _
  |x::ws,h=>by
    have hx:=h x List.mem_cons_self;rw[vG,kY ws (fun w hw=>h w (List.mem_cons_of_mem _ hw)),cellsW];grind
theorem vH {L:Nat} (hL:L≤11):∀xs:List Nat,dW xs L→cellsW (xs.map (uV L))*2^(11-L)=gf xs
  |[],_=>by simp[cellsW,gf]
  |x::xs,h=>by
    have ih:=vH hL xs (fun y hy=>h y (List.mem_cons_of_mem _ hy));have hx:=h x List.mem_cons_self;rw[List.map_cons,cellsW,gf,Nat.add_mul,ih];congr 1;unfold uV;by_cases e:x=0
    · grind
    · rw[if_neg e,if_neg Om,if_neg e, ←Nat.pow_add];congr 1;omega
theorem Ge {ls:List Nat} {L last:Nat} (h:HW ls L last):gf (ls.take (last+1))=gf ls:=by
  have e:gf ls=gf (ls.take (last+1))+gf (ls.drop (last+1)):=by rw[←tg,List.take_append_drop]
  have hz:∀xs:List Nat,(∀x ∈ xs,x=0)→gf xs=0:=fun xs=>by
    induction xs with
    |nil=>intro _;rfl
    |cons x xs ih=>intro hx;simp only[gf,hx x List.mem_cons_self,ih fun y hy=>hx y (List.mem_cons_of_mem _ hy)];rfl
  grind [Aa]
theorem o7 {ls:List Nat} {L last:Nat} (h:HW ls L last) (hw:gE ls) (hL:L≤11):cellsW (kI ls L last)=2^L:=by
  have h1:=vH hL (ls.take (last+1)) (h.le.NW _);rw[Ge h,hw.2.2.1,show(2048:Nat)=2^L*2^(11-L) by rw[←Nat.pow_add,show L+(11-L)=11 by omega]] at h1;exact Nat.eq_of_mul_eq_mul_right (Nat.pow_pos Om) h1
theorem Ac {ls:List Nat} {L last:Nat} (h:HW ls L last):kI ls L last=bI ls L last++[uV L (ls.getD last 0)]:=by
  rw[kI,iK h.lt,List.map_append];rfl
theorem HW.L11 {ls:List Nat} {L last:Nat} (h:HW ls L last) (hw:gE ls):L≤11:=by
  obtain⟨p,hp,rfl⟩:=h.at_;exact hw.2.1.at_ p
theorem o8 {ls:List Nat} {L last:Nat} (h:HW ls L last) (hw:gE ls):cellsW (bI ls L last)+2^(L-ls.getD last 0)=2^L∧1≤ls.getD last 0∧ls.getD last 0≤L:=by
  have h1:=o7 h hw (h.L11 hw);have h2:=h.nz;have h3:=h.Ju last;grind [Ac,q5,cellsW,uV]
theorem DH {ls:List Nat} {L last:Nat} (h:HW ls L last) (hw:gE ls):aq (cellsW (bI ls L last))=L∧2^(L-1)≤cellsW (bI ls L last):=by
  obtain⟨h1,h2,h3⟩:=o8 h hw;have hp:(2:Nat)^(L-ls.getD last 0)≤2^(L-1):=Nat.pow_le_pow_right Om Om;have hq:(2:Nat)^L=2^(L-1)*2:=by rw[←Nat.pow_succ];congr 1;omega
  have rG:=Nat.pow_pos (n:=L-ls.getD last 0) (show 0<2 by omega);have a:=cL (n:=cellsW (bI ls L last)) (k:=L) Om;have b:=ir (cellsW (bI ls L last));have c:L-1<aq (cellsW (bI ls L last)):=(Nat.pow_lt_pow_iff_right Om).1 (Nat.lt_of_le_of_lt (show 2^(L-1)≤_ by omega) b);omega
theorem Bp {ls:List Nat} {L last:Nat} (h:HW ls L last) (hL:L≤11) (he:gS ls):2≤(kI ls L last).count 1∧(kI ls L last).count 1%2=0:=by
  have hc:=xA h (n:=L) h.L1 (Nat.le_refl _);rw[show L+1-L=1 by omega] at hc;have h1:=he L h.L1 hL;rw[wH h.le hL,Nat.zero_add] at h1;obtain⟨p,hp,L6⟩:=h.at_;grind
structure tx (H P:List Nat):Prop where
  len:H.length=64
  sum:∀v,v<16→H.getD v 0+H.getD (16+v) 0+H.getD (32+v) 0+H.getD (48+v) 0=P.count v
theorem tx.zero:tx (List.replicate 64 0) []:=⟨List.length_replicate,fun v hv=>by rw[qg,qg,qg,qg];rfl⟩
theorem tx.step {H P:List Nat} (h:tx H P) {a x:Nat} (hx:x<16) (ha:a=x∨a=16+x∨a=32+x∨a=48+x):tx (H.set a (H.getD a 0+1)) (P++[x]):=by
  have hl:=h.len;have g:∀j,(H.set a (H.getD a 0+1)).getD j 0=H.getD j 0+if a=j then 1 else 0:=fun j=>by
    grind
  refine⟨by rw[List.length_set];exact hl,fun v hv=>?_⟩;rw[g,g,g,g,List.count_append, ←h.sum v hv];grind
theorem tx.le {H P:List Nat} (h:tx H P) {v:Nat} (hv:v<16):H.getD v 0≤P.length∧H.getD (16+v) 0≤P.length∧H.getD (32+v) 0≤P.length∧H.getD (48+v) 0≤P.length:=by
  have h1:=h.sum v hv;grind
def tA (R P:List Nat) (n:Nat):Prop:=∀v,v<n→R.getD v 0=P.count v
theorem tA.step {R P:List Nat} {n x:Nat} (h:tA R P n) (hn:n<R.length) (hx:x=P.count n):tA (R.set n x) P (n+1):=fun v hv=>by
  rw[gg hn];by_cases e:n=v
  · grind
  · rw[if_neg e];exact h v Om
theorem tA.last {R P:List Nat} {n x:Nat} (h:tA R P n) (hn:n≤R.length) (hx:x<n):tA (R.set x (R.getD x 0+1)) (P++[x]) n:=fun v hv=>by
  rw[gg Om,List.count_append];by_cases e:x=v
  · subst e;rw[if_pos rfl,h x hx];simp
  · rw[if_neg e,h v hv];simp[e]
theorem Ad {ws:List Nat} {i L:Nat} (h:∀w ∈ ws,w≤L) (hs:cellsW ws≤2048) (hi:1≤i):startW ws i+ws.count i*2^(i-1)=startW ws (i+1)∧startW ws (i+1)≤2048:=by
  refine⟨(fU hi).symm,?_⟩;have h1:=kY (L:=max L i) ws fun w hw=>Nat.le_trans (h w hw) (Nat.le_max_left _ _)
  have h2:=eF ws (show i+1≤max L i+1 by have:=Nat.le_max_right L i;omega);omega
structure rM (R ws:List Nat) (n:Nat):Prop where
  low:∀v,1≤v→v<n→R.getD v 0=startW ws v
  high:∀v,n≤v→v<16→R.getD v 0=ws.count v
theorem rM.init {R ws:List Nat} (h:tA R ws 16):rM R ws 1:=⟨fun v h1 h2=>Om,fun v _ h2=>h v h2⟩
theorem rM.step {R ws:List Nat} {n x:Nat} (h:rM R ws n) (hl:R.length=16) (hn:n<16) (hx:x=startW ws n):rM (R.set n x) ws (n+1):=by
  refine⟨fun v h1 h2=>?_,fun v h1 h2=>?_⟩
  · rw[gg Om];by_cases e:n=v
    · grind
    · rw[if_neg e];exact h.low v h1 Om
  · rw[gg Om,if_neg Om];exact h.high v Om h2
theorem NX (k:Nat):aq (2^k)=k+1:=qm (by rw[Nat.add_sub_cancel];exact Nat.le_refl _) (Nat.pow_lt_pow_right Om Om) Om
theorem KR {ws:List Nat} {L w:Nat} (hws:∀x ∈ ws,x≤L) (rL:cellsW ws=2^L) (hw:w≤L):startW ws (w+1)≤2^L:=by
  rw[←rL, ←kY ws hws];simp_all [eF]
theorem Wv {L:Nat} {ws r dt:List Nat} (ov:L≤11) (hw:∀w ∈ ws,w≤L) (hr:r.length=16) (gV:∀w,0<w→w≤L→r.getD w 0=startW ws w) (rL:cellsW ws=2^L) (hdt:dt.length=2048):je r ws dt:=by
  have Y4:(2:Nat)^L≤2^11:=Nat.pow_le_pow_right Om ov;have abW:∀w,L<w→ws.count w=0:=fun w h=>List.count_eq_zero.2 fun hm=>by have:=hw w hm;omega
  have DE:∀w v,YZ r ws w v→w≤L∧startW ws w≤v∧v<startW ws (w+1):=fun w v h=>by
    rcases Nat.lt_or_ge L w with h'|h'
    · have:=h.2.2;rw[abW w h'] at this;have:=h.2.1;omega
    · have h1:=h.2.1;have h2:=h.2.2;rw[gV w h.1 h'] at h1 h2;exact⟨h',h1,by rw[fU h.1];exact h2⟩
  refine⟨hr,fun w h=>by have:=hw w h;omega,fun w h0 CE=>?_,fun w w' v h1 h2=>?_⟩
  · have h':=hw w CE;rw[gV w h0 h', ←fU h0];have:=KR hw rL h';omega
  · obtain⟨_,a1,a2⟩:=DE w v h1;obtain⟨_,b1,b2⟩:=DE w' v h2;rcases Nat.lt_trichotomy w w' with h|h|h
    · have:=eF ws (show w+1≤w' by omega);omega
    · exact h
    · have:=eF ws (show w'+1≤w by omega);omega
structure wj (L:Nat) (ws:List Nat) (n:Nat) (R D F:List Nat):Prop where
  eq:fillT L n (ws.drop n) R D=F
  ok:je R (ws.drop n) D
  len:D.length=2048
theorem wj.skip {L n:Nat} {ws R D F:List Nat} (h:wj L ws n R D F) (hn:n<ws.length) (h0:ws.getD n 0=0):wj L ws (n+1) R D F:=by
  have e:=qh hn;rw[h0] at e;have h1:=h.eq;have h2:=h.ok;rw[e] at h1 h2;unfold fillT at h1;rw[if_pos rfl] at h1;exact⟨h1,h2.skip,h.len⟩
theorem wj.room {L n:Nat} {ws R D F:List Nat} (h:wj L ws n R D F) (hn:n<ws.length) (h0:ws.getD n 0≠0):R.getD (ws.getD n 0) 0+2^(ws.getD n 0-1)≤2048∧ws.getD n 0<16:=by
  have h2:=h.ok;rw[qh hn] at h2;have:=h2.KQ Om;rw[h.len] at this;exact⟨this,h2.Y0 _ List.mem_cons_self⟩
theorem wj.step {L n:Nat} {ws R D F:List Nat} (h:wj L ws n R D F) (hn:n<ws.length) (h0:ws.getD n 0≠0):wj L ws (n+1) (R.set (ws.getD n 0) (R.getD (ws.getD n 0) 0+2^(ws.getD n 0-1))) (cK D (R.getD (ws.getD n 0) 0) (List.replicate (2^(ws.getD n 0-1)) (L+1-ws.getD n 0+256*n))) F:=by
  have h1:=h.eq;have h2:=h.ok;rw[qh hn] at h1 h2;unfold fillT at h1;rw[if_neg h0] at h1;have hl:(cK D (R.getD (ws.getD n 0) 0) (List.replicate (2^(ws.getD n 0-1)) (L+1-ws.getD n 0+256*n))).length=D.length:=aV (by rw[List.length_replicate];exact h2.KQ Om);exact⟨h1,h2.step Om hl,by rw[hl];exact h.len⟩
theorem wj.done {L n:Nat} {ws R D F:List Nat} (h:wj L ws n R D F) (hn:ws.length≤n):D=F:=by
  have h1:=h.eq;rwa [List.drop_of_length_le hn] at h1
theorem Ae (D:List Nat) (a e:Nat):cK D a (List.replicate 0 e)=D:=by simp[cK]
theorem DJ {D:List Nat} {a i e:Nat} (h:a+i<D.length):(cK D a (List.replicate i e)).set (a+i) e=cK D a (List.replicate (i+1) e):=by
  have l1:(cK D a (List.replicate i e)).length=D.length:=aV (by rw[List.length_replicate];omega);have l2:(cK D a (List.replicate (i+1) e)).length=D.length:=aV (by rw[List.length_replicate];omega);refine zY (d:=0) (u:=D.length) (fun j hj=>?_) (by rw[List.length_set,l1,l2]) (by rw[List.length_set,l1];exact Nat.le_refl _);grind [gg,mv,DC]
theorem NY {n:Nat} (h:n<256):n&&&255=n:=by
  have:=Nat.and_two_pow_sub_one_eq_mod n 8;grind
theorem lC (n:Nat):n&&&15=n%16:=Nat.and_two_pow_sub_one_eq_mod n 4
theorem Ww (n:Nat):n&&&3=n%4:=Nat.and_two_pow_sub_one_eq_mod n 2
theorem ox (n:Nat):n&&&7=n%8:=Nat.and_two_pow_sub_one_eq_mod n 3
theorem NZ (n:Nat):n&&&31=n%32:=Nat.and_two_pow_sub_one_eq_mod n 5
theorem ajo (n:Nat):n&&&65535=n%65536:=Nat.and_two_pow_sub_one_eq_mod n 16
theorem z6.at_ {xs bs:List Nat} {len p p':Nat} (h:z6 xs len p bs) (e:p'=p):z6 xs len p' bs:=e▸h
theorem N1 {t n r:Nat} (h:t=2^(n-1)) (h1:r<t) (h2:1≤r):2≤n∧t/2^1=2^(n-1-1):=by
  have hn:2≤n:=Classical.byContradiction fun hn=>by
    grind
  refine⟨hn,?_⟩;obtain⟨m,rfl⟩:∃m,n=m+2:=⟨n-2,Om⟩;grind
theorem N3 {n:Nat} (h:1≤n):2^n=2*2^(n-1):=by
  obtain⟨m,rfl⟩:∃m,n=m+1:=⟨n-1,Om⟩;grind
theorem xD (w x c:Nat) (h:w=x/2^c):w/2^2=x/2^(c+2):=by rw[h,Nat.div_div_eq_div_mul, ←Nat.pow_add]
theorem xE {w x c:Nat} (h:w=x/2^c) (hx:x<4294967296):w<4294967296:=by
  have:=Nat.div_le_self x (2^c);omega
theorem wg.congr {dt:List Nat} {L:Nat} {cd cd':Nat→Nat × Nat} {S S':Nat→Prop} (h:wg dt L cd S) (h1:∀c,S' c→S c∧cd c=cd' c):wg dt L cd' S':=
  ⟨h.L1,h.L16,fun c hc=>by rw[←(h1 c hc).2];exact h.one c (h1 c hc).1,fun c hc v hv he=>by rw[←(h1 c hc).2] at he ⊢;exact h.at_ c (h1 c hc).1 v hv he⟩
def Has (ls:List Nat) (c:Nat):Prop:=1≤ls.getD c 0
theorem N4 {ls r dt:List Nat} {L last:Nat} (h:HW ls L last) (hw:gE ls) (he:gS ls) (hr:r.length=16) (gV:∀w,0<w→w≤L→r.getD w 0=startW (kI ls L last) w) (hdt:dt.length=2048):
    wg (fillT L 0 (kI ls L last) r dt) L (lv ls) (Has ls)∧(fillT L 0 (kI ls L last) r dt).length=2048:=by
  have hL:=h.L11 hw;have hlen:=vF h;have hl:=h.lt;have Dr:=hw.1;obtain⟨h1,h2⟩:=xz (ws:=kI ls L last) (r:=r) (dt:=dt) h.L1 hL Om Bo hr gV (by rw[kY _ Bo];exact o7 h hw hL) hdt;refine⟨h1.congr fun c hc=>?_,h2⟩;obtain⟨h3,h4⟩:=Wu h hL he hc;refine⟨⟨Om,?_⟩,h3⟩;have h5:=h.Ju c;have h6:1≤ls.getD c 0:=hc;grind [DF,uV]
theorem aJ.ofBits {xs dt ls t:List Nat} {k len L tt:Nat} (hT:wg dt L (lv ls) (Has ls)) (hb:Bytes xs) (ht:4≤tt) (ha:∀c ∈ t,Has ls c) (hl:len=tN (lv ls) t/8+1) (hv:tailV xs k len=2^tN (lv ls) t+bitsV (codeBits ls t)):
    aJ xs k len (lv ls) (Has ls) (BR.init tt xs k len) t∧0<xs.getD (k+(len-1)) 0:=by
  have h1:=oV ls t fun c hc=>(hT.one c (ha c hc)).2.2.2
  rw[h1] at hv;obtain⟨h2,h3⟩:=Pos.ta (t:=tt) hb ht hl (Jl hT t ha) hv;exact⟨⟨h2,ha⟩,h3⟩
theorem rN {a b:List Nat} {i:Nat} (h:a.length≤i):(a++b).getD i 0=b.getD (i-a.length) 0:=by
  grind
theorem Gf {a b:List Nat} {i:Nat} (h:i<a.length):(a++b).getD i 0=a.getD i 0:=by
  grind
theorem qn {xs a y b:List Nat} {k n:Nat} (h:xs=a++(y++b)) (hk:k=a.length) (hn:n≤y.length):tailV xs k n=tailV y 0 n:=by
  grind [iJ,rN,Gf]
theorem N5 {t:List Nat} {q j:Nat} (h:(j+1)*q≤t.length):vE t q j=sub t (q*j) q:=by
  grind [vE,sub]
theorem KS {t:List Nat} {q m:Nat} (h:t.length=3*q+m) (hm:m≤q):vE t q 3=sub t (q*3) m:=by
  grind [vE,sub]
theorem Af {Y:List (List Nat)} (h:Y.length=4):Y=[Y.getD 0 [],Y.getD 1 [],Y.getD 2 [],Y.getD 3 []]:=by
  match Y,h with
  |[a,b,c,d],_=>rfl
structure Gg (xs t ls:List Nat) (ev m3 bJ bU cc cT:Nat):Prop where
  len:xs.length=6+bJ+bU+cc+cT
  one:1≤bJ∧1≤bU∧1≤cc∧1≤cT
  j0:xs.getD 0 0=bJ%256∧xs.getD 1 0=bJ/256
  j1:xs.getD 2 0=bU%256∧xs.getD 3 0=bU/256
  j2:xs.getD 4 0=cc%256∧xs.getD 5 0=cc/256
  s0:bJ=tN (lv ls) (sub t (ev*0) ev)/8+1∧tailV xs 6 bJ=2^tN (lv ls) (sub t (ev*0) ev)+bitsV (codeBits ls (sub t (ev*0) ev))∧∀c ∈ sub t (ev*0) ev,Has ls c
  s1:bU=tN (lv ls) (sub t (ev*1) ev)/8+1∧tailV xs (6+bJ) bU=2^tN (lv ls) (sub t (ev*1) ev)+bitsV (codeBits ls (sub t (ev*1) ev))∧∀c ∈ sub t (ev*1) ev,Has ls c
  s2:cc=tN (lv ls) (sub t (ev*2) ev)/8+1∧tailV xs (6+bJ+bU) cc=2^tN (lv ls) (sub t (ev*2) ev)+bitsV (codeBits ls (sub t (ev*2) ev))∧∀c ∈ sub t (ev*2) ev,Has ls c
  s3:cT=tN (lv ls) (sub t (ev*3) m3)/8+1∧tailV xs (6+bJ+bU+cc) cT=2^tN (lv ls) (sub t (ev*3) m3)+bitsV (codeBits ls (sub t (ev*3) m3))∧∀c ∈ sub t (ev*3) m3,Has ls c
  bytes:Bytes xs
theorem Gg.of {xs t ls:List Nat} {ev m3:Nat} {Y:List (List Nat)} (hY:Y.length=4) (hp:∀j,j<4→F5 ls (vE t ev j) (Y.getD j [])) (hx:xs=mr (Y.take 3)++Y.flatten) (ht:t.length=3*ev+m3) (hm:m3≤ev):∃bJ bU cc cT,Gg xs t ls ev m3 bJ bU cc cT:=by
  have e:=Af hY;have p0:=hp 0 Om;have p1:=hp 1 Om;have p2:=hp 2 Om;have p3:=hp 3 Om;generalize Y.getD 0 []=y0 at e p0;generalize Y.getD 1 []=y1 at e p1;generalize Y.getD 2 []=y2 at e p2;generalize Y.getD 3 []=y3 at e p3;subst e;rw[N5 Om] at p0 p1 p2;rw[KS ht hm] at p3;have hh:mr ([y0,y1,y2,y3].take 3)=[y0.length%256,y0.length/2^8,y1.length%256,y1.length/2^8,y2.length%256,y2.length/2^8]:=rfl;have hf:[y0,y1,y2,y3].flatten=y0++(y1++(y2++y3)):=Oi;rw[hh,hf] at hx;have l0:=p0.len;have l1:=p1.len;have l2:=p2.len;have l3:=p3.len
  have has:∀{t ys:List Nat},F5 ls t ys→∀c ∈ t,Has ls c:=fun h c hc=>(h.all c hc).2.1
  refine⟨y0.length,y1.length,y2.length,y3.length,?_⟩;refine⟨?_,⟨Om,Om,Om,Om⟩,?_,?_,?_,⟨l0.1,?_,has p0⟩,⟨l1.1,?_,has p1⟩,⟨l2.1,?_,has p2⟩,⟨l3.1,?_,has p3⟩,?_⟩
  · grind
  · grind
  · grind
  · simp_all
  · rw[qn (k:=6) (n:=y0.length) hx rfl (Nat.le_refl _),l0.1,p0.num]
  · rw[qn (n:=y1.length) (xs:=xs) (a:=[y0.length%256,y0.length/2^8,y1.length%256,y1.length/2^8,y2.length%256,y2.length/2^8]++y0) (b:=y2++y3) (by rw[hx];simp) Oz (Nat.le_refl _),l1.1,p1.num]
  · rw[qn (n:=y2.length) (xs:=xs) (a:=[y0.length%256,y0.length/2^8,y1.length%256,y1.length/2^8,y2.length%256,y2.length/2^8]++y0++y1) (b:=y3) (by rw[hx];simp) Oz (Nat.le_refl _),l2.1,p2.num]
  · rw[qn (n:=y3.length) (xs:=xs) (a:=[y0.length%256,y0.length/2^8,y1.length%256,y1.length/2^8,y2.length%256,y2.length/2^8]++y0++y1++y2) (b:=[]) (by rw[hx];simp) Oz (Nat.le_refl _),l3.1,p3.num]
  · rw[hx];intro x hx';simp only[List.mem_append] at hx';rcases hx' with h|h|h|h|h
    · (simp_all;omega)
    · exact p0.bytes x h
    · exact p1.bytes x h
    · exact p2.bytes x h
    · exact p3.bytes x h
inductive cx:Nat→List Int→List Nat→Prop
  |done:cx 0 [] []
  |num (left:Nat) (n:Int) (cs:List Int) (bits:List Nat):n≠0→ -1≤n→n.natAbs≤left→cx (left-n.natAbs) cs bits→cx left (n::cs) (gW (left+1) (n+1).toNat++bits)
  |zer (left z:Nat) (c:Int) (cs:List Int) (bits:List Nat):0<left→c≠0→cx left (c::cs) bits→cx left (0::(List.replicate z 0++c::cs)) (gW (left+1) 1++(zerosB z++bits))
theorem cx.bits {l:Nat} {cs:List Int} {E:List Nat} (h:cx l cs E):om E:=by
  induction h with
  |done=>exact fun x hx=>by cases hx
  |num l n cs b h0 h1 hl hd ih=>exact om.app (qj _ _) ih
  |zer l z c cs b h0 hc hd ih=>exact om.app (qj _ _) (om.app (lB _) ih)
theorem cx.inv {left:Nat} {cs:List Int} {E:List Nat} (h:cx left cs E) (h0:0<left):∃n t b,E=gW (left+1) (n+1).toNat++b∧cs=n::t∧ -1≤n∧n.natAbs≤left∧
    ((n≠0∧cx (left-n.natAbs) t b)∨(n=0∧∃z c t2 b2,b=zerosB z++b2∧t=List.replicate z 0++c::t2∧cx left (c::t2) b2)):=by
  cases h with
  |done=>omega
  |num l n t b h1 h2 h3 h4=>exact⟨n,t,b,rfl,rfl,h2,h3,.inl ⟨h1,h4⟩⟩
  |zer l z c t b h1 h2 h3=>exact⟨0,_,_,rfl,rfl,Om,Oi,.inr ⟨rfl,z,c,t,b,rfl,rfl,h3⟩⟩
theorem cx.abX {cs:List Int} {E:List Nat} {left:Nat} (h:cx left cs E) (h0:left=0):E=[]∧cs=[]:=by
  cases h with
  |done=>exact⟨rfl,rfl⟩
  |num l n t b h1 h2 h3 h4=>omega
  |zer l z c t b h1 h2 h3=>omega
theorem cx.abY {l:Nat} {cs:List Int} {E:List Nat} (h:cx l cs E):l<128→E.length≤10*cs.length:=by
  induction h with
  |done=>intro _;simp
  |num l n cs b h0 h1 hl hd ih=>
    intro h9;have h8:=(kW (di:=l+1) (v:=(n+1).toNat)).2;have h7:aq (l+1)≤8:=cL Om;grind
  |zer l z c cs b h0 hc hd ih=>
    intro h9;have h8:=(kW (di:=l+1) (v:=1)).2;have h7:aq (l+1)≤8:=cL Om;grind [qk]
def DK (S:Nat) (cs:List Int) (pz:Bool) (left i:Nat) (E:List Nat):Prop:=
  (pz=false∧∀rest,cx left (cs.drop i) rest→cx S cs (E++rest))∨(pz=true∧∀z c t b,cs.drop i=List.replicate z 0++c::t→c≠0→cx left (c::t) b→cx S cs (E++(zerosB z++b)))
theorem DK.begin (S:Nat) (cs:List Int):DK S cs false S 0 []:=.inl ⟨rfl,fun rest h=>by simpa using h⟩
theorem qq {xs:List Int} {i:Nat} (h:i<xs.length):xs.drop i=xs.getD i 0::xs.drop (i+1):=by rw[List.drop_eq_getElem_cons h];simp[h]
theorem vI {xs:List Int} {i:Nat}:∀z,(∀j,j<z→xs.getD (i+j) 0=0)→i+z≤xs.length→xs.drop i=List.replicate z 0++xs.drop (i+z)
  |0,_,_=>by simp
  |z+1,h,hl=>by
    rw[vI z (fun j hj=>h j Om) Om,qq (i:=i+z) Om,h z Om,List.replicate_succ',List.append_assoc]
    rfl
theorem DK.num {S left i:Nat} {cs:List Int} {E:List Nat} {n:Int} (h:DK S cs false left i E) (hi:i<cs.length) (hn:cs.getD i 0=n) (h0:n≠0) (h1: -1≤n) (hl:n.natAbs≤left):DK S cs false (left-n.natAbs) (i+1) (E++gW (left+1) (n+1).toNat):=by
  rcases h with ⟨_,h⟩|⟨h,_⟩
  · refine .inl ⟨rfl,fun rest hr=>?_⟩;rw[List.append_assoc];refine h _ ?_;rw[qq hi,hn];exact cx.num left n _ rest h0 h1 hl hr
  · cases h
theorem DK.zero {S left i:Nat} {cs:List Int} {E:List Nat} (h:DK S cs false left i E) (hi:i<cs.length) (hn:cs.getD i 0=0) (h0:0<left):DK S cs true left (i+1) (E++gW (left+1) 1):=by
  rcases h with ⟨_,h⟩|⟨h,_⟩
  · refine .inr ⟨rfl,fun z c t b e hc hr=>?_⟩;rw[List.append_assoc];refine h _ ?_;rw[qq hi,hn,e];exact cx.zer left z c t b h0 hc hr
  · cases h
theorem DK.run {S left i z:Nat} {cs:List Int} {E:List Nat} (h:DK S cs true left i E) (hi:i+z<cs.length) (hz:∀j,j<z→cs.getD (i+j) 0=0) (hc:cs.getD (i+z) 0≠0):DK S cs false left (i+z) (E++zerosB z):=by
  rcases h with ⟨h,_⟩|⟨_,h⟩
  · cases h
  · refine .inl ⟨rfl,fun rest hr=>?_⟩;rw[List.append_assoc];have e:=vI z hz Om;grind [qq]
theorem DK.done {S:Nat} {cs:List Int} {pz:Bool} {i:Nat} {E:List Nat} (h:DK S cs pz 0 i E) (hp:pz=false) (hi:i=cs.length):cx S cs E:=by
  rcases h with ⟨_,h⟩|⟨h1,_⟩
  · have:=h [] (by rw[hi,List.drop_length];exact cx.done);grind
  · grind
def Bq (L:Nat) (pz:Bool) (rem cn len:Nat):Prop:=len+(if 2^L≤rem then 1 else 0)+(if pz=true then 1 else 0)≤5+(L+1)*cn
theorem Ag {L rem v:Nat} (hL:L=5∨L=6) (h1:1≤rem) (h2:rem≤2^L+1) (hv:v≤rem):(gW rem v).length≤L+1∧(rem<2^L→(gW rem v).length≤L)∧(v≤2→(gW rem v).length≤L):=by
  have h3:=(kW (di:=rem) (v:=v)).2;have hz:2^(L+1)=2*2^L:=by rw[Nat.pow_succ,Nat.mul_comm]
  have h4:aq rem≤L+1:=cL (by rcases hL with rfl|rfl<;>omega);grind [aq,cL,qm,gW,bA]
theorem Bq.num {L rem cn len n:Nat} (h:len+(if 2^L≤rem then 1 else 0)≤5+(L+1)*cn+1) (hL:L=5∨L=6) (hr:rem≤2^L+1) (h1:1≤rem) (hn:1≤n) (FC:n+1≤rem) {v:Nat} (hv:v≤n+1):Bq L false (rem-n) (cn+1) (len+(gW rem v).length):=by
  obtain⟨c1,c2,c3⟩:=Ag (v:=v) hL h1 hr Om;grind [Bq]
theorem Bq.zero {L rem cn len:Nat} (h:Bq L false rem cn len) (hL:L=5∨L=6) (hr:rem≤2^L+1) (h1:1≤rem):Bq L true rem (cn+1) (len+(gW rem 1).length):=by
  obtain⟨c1,c2,c3⟩:=Ag (v:=1) hL h1 hr h1;grind [Bq]
theorem Bq.run {L rem cn len:Nat} (h:Bq L true rem cn len) (z:Nat):len+(zerosB z).length+(if 2^L≤rem then 1 else 0)≤5+(L+1)*(cn+z)+1:=by
  unfold Bq at h;grind [qk]
theorem Bq.sJ {L rem cn len:Nat} (h:Bq L false rem cn len):len+(if 2^L≤rem then 1 else 0)≤5+(L+1)*cn+1:=by
  grind [Bq]
structure iB (log:Nat) (T:List Cell) (text ys:List Nat):Prop where
  ex:∃A,kV log T text A∧(∀i,i<text.length→text.length≤i+2→1≤(T.getD (A.getD i 0) (0,0,0)).2.1)∧Bytes ys∧ys.length=(2*log+fN T A)/8+1∧tailV ys 0 ((2*log+fN T A)/8+1)=2^(2*log+fN T A)+((A.getD 0 0*2^log+A.getD 1 0)*2^fN T A+fR T A)
structure fz (log:Nat) (cs:List Int) (text ys:List Nat):Prop where
  cB:bu log cs
  ex:∃E H B,ys=H++B∧cx (2^log) cs E∧Bytes H∧H.length=(4+E.length+7)/8∧tailV H 0 ((4+E.length+7)/8)=lowV (ez (log-5) 4++E)∧iB log (eB log cs) text B
theorem Ah {log:Nat} {T:List Cell} {text A:List Nat} (hF:kV log T text A):(A.getD 0 0*2^log+A.getD 1 0)*2^fN T A+fR T A<2^(2*log+fN T A):=by
  have h1:fR T A<2^fN T A:=by have:=kV.lt_ hF _ 0 rfl;rwa [List.drop_zero] at this
  have h0:0<2^log:=Nat.two_pow_pos _;have ajp:∀i,A.getD i 0<2^log:=fun i=>by
    rcases Nat.lt_or_ge i A.length with hi|hi
    · exact hF.lt _ (by simp[List.getD_eq_getElem?_getD,hi])
    · grind
  have ha:=ajp 0;have hb:=ajp 1;generalize A.getD 0 0=a at*;generalize A.getD 1 0=b at*;have e:2^(2*log+fN T A)=(2^log*2^log)*2^fN T A:=by rw[Nat.pow_add,Nat.two_mul,Nat.pow_add]
  have h3:(a+1)*2^log≤2^log*2^log:=Nat.mul_le_mul_right _ ha;have h2:(a*2^log+b+1)*2^fN T A≤(2^log*2^log)*2^fN T A:=Nat.mul_le_mul_right _ (by rw[Nat.add_mul,Nat.one_mul] at h3;omega);grind
theorem iB.last {log:Nat} {T:List Cell} {text ys:List Nat} (h:iB log T text ys):0<ys.length∧ys.getD (ys.length-1) 0≠0∧Bytes ys:=by
  obtain⟨A,h1,_,h2,h3,h4⟩:=h.ex;have:=(Pos.ta (k:=0) (t:=4) h2 Om rfl (Ah h1) h4).2;grind
theorem fz.bytes {log:Nat} {cs:List Int} {ws b:List Nat} (h:fz log cs ws b):Bytes b:=by
  obtain⟨E,H,B,e,h1,h2,h3,h4,h5⟩:=h.ex;have hB:=h5.last.2.2;exact e▸fun x hx=>(List.mem_append.1 hx).elim (h2 x) (hB x)
theorem fz.read {log:Nat} {cs:List Int} {ws b:List Nat} (h:fz log cs ws b):∃E,cx (2^log) cs E∧z6 b b.length 0 (ez (log-5) 4++E)∧0<(b.drop ((4+E.length+7)/8)).length∧(b.drop ((4+E.length+7)/8)).getD ((b.drop ((4+E.length+7)/8)).length-1) 0≠0∧iB log (eB log cs) ws (b.drop ((4+E.length+7)/8)):=by
  have UU:=h.bytes;obtain⟨E,H,B,e,h1,h2,h3,h4,h5⟩:=h.ex;have hB:=h5.last;have e2:b.drop ((4+E.length+7)/8)=B:=by rw[e, ←h3,List.drop_append_of_le_length (Nat.le_refl _),List.drop_length,List.nil_append]
  refine⟨E,h1,?_,by rw[e2];exact hB.1,by rw[e2];exact hB.2.1,by rw[e2];exact h5⟩;have hle:(ez (log-5) 4++E).length=4+E.length:=by rw[List.length_append,bA]
  have L5:b.length=H.length+B.length:=by rw[e,List.length_append]
  refine z6.abN (by rw[hle,L5,h3];omega) ?_;have e1:=uS UU 0 (m:=H.length) (n:=b.length) Om;have e3:tailV b 0 H.length=tailV H 0 H.length:=iJ _ fun i hi=>by rw[e];simp[List.getD_eq_getElem?_getD,List.getElem?_append_left hi]
  rw[e3,h3,h4] at e1;have h6:om (ez (log-5) 4++E):=om.app (jQ _ 4) h1.bits;have hd:2^(ez (log-5) 4++E).length∣2^(8*((4+E.length+7)/8)):=Nat.pow_dvd_pow 2 (by rw[hle];omega);rw[←Nat.mod_mod_of_dvd _ hd,e1,Nat.mod_eq_of_lt (wE h6)]
def eG {α:Type} (size m:Nat) (all:Nat→α) (G:Nat→α) (k j:Nat):Prop:=∀i,(i<k∨(size-m≤i∧i<size-m+j))→G ((jS size m).getD i 0)=all i
section
variable {α:Type} {size m k j:Nat} {all G G':Nat→α}
theorem eG.zero:eG size m all G 0 0:=fun i h=>by omega
theorem eG.low (h:eG size m all G 0 j) (hs:oZ size m) (hj:j<m) (e:G' (size-1-j)=all (size-m+j)) (o:∀u,u≠size-1-j→G' u=G u):eG size m all G' 0 (j+1):=fun i hi=>by
  have hle:=hs.le;have hb:=hs.back hj;by_cases ei:i=size-m+j
  · grind
  · rw[o _ fun he=>ei (hs.inj Om Om (he.trans hb.symm))];exact h i Om
theorem eG.flat (h:eG size m all G k m) (hs:oZ size m) (hk:k<size-m) {p:Nat} (hp:p=(ni size m).getD k 0) (e:G' p=all k) (o:∀u,u≠p→G' u=G u):eG size m all G' (k+1) m:=fun i hi=>by
  have hle:=hs.le;rw[←hs.seq hk] at hp;by_cases ei:i=k
  · grind
  · rw[o _ fun he=>ei (hs.inj Om Om (he.trans hp))];exact h i Om
theorem eG.done (h:eG size m all G (size-m) m) (hs:oZ size m) {u:Nat} (hu:u<size):G u=all ((jS size m).idxOf u):=by
  obtain⟨h1,h2⟩:=hs.met hu;have hle:=hs.le;have:=h ((jS size m).idxOf u) Om;grind
end
def wk (size m k:Nat):Nat:=(ni size m).getD (k%(size-m)) 0
section
variable {size m k:Nat}
theorem N6 (h:oZ size m):wk size m 0=0:=by unfold wk;rw[Nat.zero_mod];exact h.first
theorem N7 (h:oZ size m):wk size m (size-m)=0:=by unfold wk;rw[Nat.mod_self];exact h.first
theorem abZ (h:oZ size m) (k:Nat):wk size m k+m<size:=by
  have hle:=h.le;grind [wk,ni]
theorem N9 (h:oZ size m) (k:Nat):goM size m size ((wk size m k+fG size)%size)=wk size m (k+1):=by
  have hle:=h.le;unfold wk;rw[ajm h (Nat.mod_lt _ Om),Nat.mod_add_mod]
theorem Wx (h:oZ size m) (hk:k<size-m):wk size m k=(ni size m).getD k 0:=by unfold wk;rw[Nat.mod_eq_of_lt hk]
end
def kJ (cs:List Int) (s:Nat):Nat:=((cs.map fun n=>(-n).toNat).take s).sum
def dO (cs:List Int) (s:Nat):Nat:=((cs.map Int.toNat).take s).sum
theorem xF:∀(xs:List Nat) (b s k:Nat),k<xs.getD s 0→(flatC b xs).getD ((xs.take s).sum+k) 0=b+s
  |[],b,s,k,h=>by simp at h
  |n::xs,b,0,k,h=>by
    grind [flatC]
  |n::xs,b,s+1,k,h=>by
    have hk:k<xs.getD s 0:=by simpa using h
    have ih:=xF xs (b+1) s k hk;grind [flatC]
theorem xG {xs:List Nat} {s:Nat}:(xs.take (s+1)).sum=(xs.take s).sum+xs.getD s 0:=dZ
section
variable {cs:List Int} {s:Nat}
theorem fg:kJ cs (s+1)=kJ cs s+(-(cs.getD s 0)).toNat:=by
  grind [kJ,xG,iL]
theorem gF:dO cs (s+1)=dO cs s+(cs.getD s 0).toNat:=by
  grind [dO,xG,iL]
theorem Ai:kJ cs 0=0:=rfl
theorem my (h:cs.length≤s):kJ cs s=(bl cs).length:=by unfold kJ;rw[List.take_of_length_le (by simpa using h),kG]
theorem Aj (h:cs.length≤s):dO cs s=(nS cs).length:=by unfold dO;rw[List.take_of_length_le (by simpa using h),nk]
theorem qu:kJ cs s≤(bl cs).length:=by unfold kJ;rw[kG];exact oY _ _
theorem DM:dO cs s≤(nS cs).length:=by unfold dO;rw[nk];exact oY _ _
end
def mA (cs:List Int):List Nat:=nS cs++bl cs
theorem KT {cs:List Int} {s k:Nat} (h:k<(cs.getD s 0).toNat):(mA cs).getD (dO cs s+k) 0=s:=by
  have h1:=xF (cs.map Int.toNat) 0 s k (by rw[iL rfl];exact h);have h2:dO cs s+k<(nS cs).length:=by
    have:=DM (cs:=cs) (s:=s+1);grind [gF]
  grind [mA,dO,nS]
theorem N' {cs:List Int} {s:Nat} (h:cs.getD s 0= -1):(mA cs).getD ((nS cs).length+kJ cs s) 0=s:=by
  have h1:=xF (cs.map fun n=>(-n).toNat) 0 s 0 (by rw[iL rfl,h];decide);grind [mA,nS,kJ,bl]
section
variable {log:Nat} {cs:List Int}
theorem Gh {u:Nat} (hu:u<2^log):(cV log cs).getD u 0=(mA cs).getD ((jS (2^log) (bl cs).length).idxOf u) 0:=by
  unfold cV;rw[Ga hu];rfl
theorem Wz (h:bu log cs) {s:Nat} (hs:cs.getD s 0= -1):kJ cs s<(bl cs).length:=by
  have:=qu (cs:=cs) (s:=s+1);grind [fg]
theorem bu.at_ (h:bu log cs) (s:Nat): -1≤cs.getD s 0∧cs.getD s 0<2^log:=by
  rcases Nat.lt_or_ge s cs.length with hs|hs
  · have hm:cs.getD s 0 ∈ cs:=by simp[List.getD_eq_getElem?_getD,hs]
    exact⟨h.ge _ hm,h.lt _ hm⟩
  · rw[List.getD_eq_getElem?_getD,List.getElem?_eq_none hs];have:(0:Int)<2^log:=by exact_mod_cast Nat.two_pow_pos log
    grind
theorem KU (h:bu log cs) {u:Nat} (hu:u<2^log):(cV log cs).getD u 0<cs.length:=by
  grind [nr]
end
def sm (W:Nat→Nat):Nat→Nat
  |0=>0
  |n+1=>sm W n+W n
theorem bx {W W':Nat→Nat}:∀{n:Nat},(∀i,i<n→W i=W' i)→sm W n=sm W' n
  |0,_=>rfl
  |n+1,h=>by simp only[sm];rw[bx fun i hi=>h i Om,h n Om]
structure Tr (N:Nat) (C:Nat→Nat) (m p u c S B0 B:Nat) (CI PL PI:Nat→Nat):Prop where
  num:N-u+c=2*m+p∧u≤N∧c≤m∧p≤2
  mB:∀i j,i≤j→j<N→C j≤C i
  pl:∀i,u≤i→i<N→PL i≤m∧(p=0→PL i<m)
  pi:∀a,a<c→a<PI a∧PI a≤m∧(p=0→PI a<m)
  ml:∀i j,u≤i→i≤j→j<N→PL j≤PL i
  mi:∀a b,a≤b→b<c→PI a≤PI b
  w:∀W V:Nat→Nat,(∀i,u≤i→i<N→2*W i=V (PL i))→(∀a,a<c→2*V a=V (PI a))→2*(sm W N+sm V c)=2*(sm W u+sm V m)+p*V m
  bb:B0≤B
  c1:∀i,u≤i→i<N→C i≤B∧(PL i<m→C i≤B0)∧(PL i=m→C i≤S)
  c2:∀a,a<c→CI a≤B∧(PI a<m→CI a≤B0)∧(PI a=m→CI a≤S)
  c3:∀i,i<u→B≤C i
  c4:∀a,c≤a→a<m→B≤CI a
  cs:p*B0≤S∧S≤p*B∧(0<p→B≤S)
  cm:∀a b,a≤b→b<m→CI a≤CI b
  ti:∀a,a<m→CI a≤2*B0
  g1:∀i,u≤i→i<N→PL i<c→PI (PL i)<m→2*C i≤CI (PI (PL i))
  g2:∀a,a<c→PI a<c→PI (PI a)<m→2*CI a≤CI (PI (PI a))
  q1:∀i,u≤i→i<N→PL i<m→C i≤CI (PL i)
  q2:∀a,a<c→PI a<m→CI a≤CI (PI a)
  iQ:sm C u+sm CI m+S=sm C N+sm CI c
theorem Tr.begin {N:Nat} {C:Nat→Nat} (hs:∀i j,i≤j→j<N→C j≤C i) (CI PL PI:Nat→Nat):Tr N C 0 0 N 0 0 0 0 CI PL PI where
  num:=Om
  mB:=hs
  pl:=fun i h1 h2=>by omega
  pi:=fun a h=>by omega
  ml:=fun i j h1 h2 h3=>by omega
  mi:=fun a b h1 h2=>by omega
  w:=fun W V _ _=>by simp[sm]
  bb:=Nat.le_refl _
  c1:=fun i h1 h2=>by omega
  c2:=fun a h=>by omega
  c3:=fun i h=>Nat.zero_le _
  c4:=fun a h1 h2=>by omega
  cs:=Om
  cm:=fun a b h1 h2=>by omega
  ti:=fun a h=>by omega
  g1:=fun i h1 h2=>by omega
  g2:=fun a h=>by omega
  q1:=fun i h1 h2=>by omega
  q2:=fun a h=>by omega
  iQ:=by simp[sm]
section
variable {N:Nat} {C:Nat→Nat} {m p u c S B0 B:Nat} {CI PL PI:Nat→Nat}
theorem Tr.leaf (h:Tr N C m p u c S B0 B CI PL PI) (hp:p≤1) (hu:0<u) (hc:c=m∨C (u-1)≤CI c):
    Tr N C m (p+1) (u-1) c (S+C (u-1)) B0 (C (u-1)) CI (fun i=>if i=u-1 then m else PL i) PI:=by
  have hn:=h.num;have hB:=h.c3 (u-1) Om;have hav:∀a,c≤a→a<m→C (u-1)≤CI a:=fun a h1 h2=>by
    rcases hc with hc|hc
    · omega
    · exact Nat.le_trans hc (h.cm c a h1 h2)
  have CA:=h.cs;have UU:=h.bb;have L6:∀i,u-1≤i→i<N→i≠u-1→u≤i:=fun i h1 h2 h3=>by omega
  constructor
  · omega
  · exact h.mB
  · intro i h1 h2;by_cases e:i=u-1
    · simp[e]
    · have:=h.pl i (L6 i h1 h2 e) h2;simp only[if_neg e];exact⟨this.1,fun hz=>Om⟩
  · intro a ha;have:=h.pi a ha;exact⟨this.1,this.2.1,fun hz=>Om⟩
  · intro i j h1 h2 h3;by_cases e:i=u-1
    · by_cases e2:j=u-1
      · simp[e,e2]
      · simp only[if_neg e2,if_pos e];exact(h.pl j Om h3).1
    · simp only[if_neg e,if_neg (show j≠u-1 by omega)];exact h.ml i j Om h2 h3
  · exact h.mi
  · intro W V hW hV;have h1:=h.w W V (fun i hi1 KV=>by have:=hW i Om KV;rwa [if_neg Om] at this) hV;have h2:=hW (u-1) (Nat.le_refl _) Om;simp only[if_true] at h2;have h3:sm W u=sm W (u-1)+W (u-1):=by rw[show u=(u-1)+1 by omega];rfl
    grind
  · omega
  · intro i h1 h2;by_cases e:i=u-1
    · grind
    · have:=h.c1 i (L6 i h1 h2 e) h2;simp only[if_neg e];exact⟨Om,this.2.1,fun hz=>by have:=this.2.2 hz;omega⟩
  · intro a ha;have:=h.c2 a ha;exact⟨Om,this.2.1,fun hz=>by have:=this.2.2 hz;omega⟩
  · intro i hi;exact h.mB i (u-1) Om Om
  · exact hav
  · grind
  · exact h.cm
  · exact h.ti
  · intro i h1 h2 h3 h4;by_cases e:i=u-1
    · grind
    · simp only[if_neg e] at h3 h4 ⊢;exact h.g1 i (L6 i h1 h2 e) h2 h3 h4
  · exact h.g2
  · intro i h1 h2 h3;by_cases e:i=u-1
    · grind
    · simp only[if_neg e] at h3 ⊢;exact h.q1 i (L6 i h1 h2 e) h2 h3
  · exact h.q2
  · have h3:sm C u=sm C (u-1)+C (u-1):=by rw[show u=(u-1)+1 by omega];rfl
    have:=h.iQ;omega
theorem Tr.inner (h:Tr N C m p u c S B0 B CI PL PI) (hp:p≤1) (uz:c<m) (hc:u=0∨CI c≤C (u-1)):
    Tr N C m (p+1) u (c+1) (S+CI c) B0 (CI c) CI PL (fun a=>if a=c then m else PI a):=by
  have hn:=h.num;have hB:=h.c4 c (Nat.le_refl _) uz;have hav:∀i,i<u→CI c≤C i:=fun i hi=>by
    rcases hc with hc|hc
    · omega
    · exact Nat.le_trans hc (h.mB i (u-1) Om Om)
  have CA:=h.cs;have UU:=h.bb;constructor
  · omega
  · exact h.mB
  · intro i h1 h2;have:=h.pl i h1 h2;exact⟨this.1,fun hz=>Om⟩
  · intro a ha;by_cases e:a=c
    · grind
    · have:=h.pi a Om;simp only[if_neg e];exact⟨this.1,this.2.1,fun hz=>Om⟩
  · exact h.ml
  · intro a b h1 h2;by_cases e:b=c
    · by_cases e2:a=c
      · simp[e,e2]
      · simp only[if_neg e2,if_pos e];exact(h.pi a Om).2.1
    · simp only[if_neg e,if_neg (show a≠c by omega)];exact h.mi a b h1 Om
  · intro W V hW hV;have h1:=h.w W V hW (fun a ha=>by have:=hV a Om;rwa [if_neg Om] at this);grind [sm]
  · omega
  · intro i h1 h2;have:=h.c1 i h1 h2;exact⟨Om,this.2.1,fun hz=>by have:=this.2.2 hz;omega⟩
  · intro a ha;by_cases e:a=c
    · grind
    · have:=h.c2 a Om;simp only[if_neg e];exact⟨Om,this.2.1,fun hz=>by have:=this.2.2 hz;omega⟩
  · exact hav
  · intro a h1 h2;exact h.cm c a Om h2
  · grind
  · exact h.cm
  · exact h.ti
  · intro i h1 h2 h3 h4;by_cases e:PL i=c
    · grind
    · simp only[if_neg e] at h4 ⊢;exact h.g1 i h1 h2 Om h4
  · intro a h1 h2 h3;by_cases e:a=c
    · grind
    · simp only[if_neg e] at h2 h3 ⊢;by_cases e2:PI a=c
      · grind
      · simp only[if_neg e2] at h3 ⊢;exact h.g2 a Om Om h3
  · exact h.q1
  · intro a h1 h2;by_cases e:a=c
    · grind
    · simp only[if_neg e] at h2 ⊢;exact h.q2 a Om h2
  · have h3:sm CI (c+1)=sm CI c+CI c:=rfl;have:=h.iQ;omega
theorem Tr.node (h:Tr N C m 2 u c S B0 B CI PL PI):Tr N C (m+1) 0 u c 0 B B (fun a=>if a=m then S else CI a) PL PI:=by
  have hn:=h.num;have CA:=h.cs;have UU:=h.bb;have hti:∀a,a<m→CI a≤S:=fun a ha=>by have:=h.ti a ha;omega
  constructor
  · omega
  · exact h.mB
  · intro i h1 h2;have:=h.pl i h1 h2;exact⟨Om,fun _=>Om⟩
  · intro a ha;have:=h.pi a ha;exact⟨this.1,Om,fun _=>Om⟩
  · exact h.ml
  · exact h.mi
  · intro W V hW hV;have:=h.w W V hW hV;grind [sm]
  · omega
  · intro i h1 h2;have:=h.c1 i h1 h2;have:=h.pl i h1 h2;exact⟨Om,fun _=>Om,fun hz=>Om⟩
  · intro a ha;have:=h.c2 a ha;have:=h.pi a ha;simp only[if_neg (show a≠m by omega)];exact⟨Om,fun _=>Om,fun hz=>Om⟩
  · exact h.c3
  · intro a h1 h2;by_cases e:a=m
    · grind
    · simp only[if_neg e];exact h.c4 a h1 Om
  · omega
  · intro a b h1 h2;by_cases e:b=m
    · grind
    · simp only[if_neg e,if_neg (show a≠m by omega)];exact h.cm a b h1 Om
  · grind
  · intro i h1 h2 h3 h4;have hp:=h.pl i h1 h2;have kS:=h.c1 i h1 h2;by_cases e:PI (PL i)=m
    · grind
    · simp only[if_neg e];exact h.g1 i h1 h2 h3 Om
  · intro a h1 h2 h3;have FM:=h.c2 a h1;simp only[if_neg (show a≠m by omega)];by_cases e:PI (PI a)=m
    · grind
    · simp only[if_neg e];exact h.g2 a h1 h2 Om
  · intro i h1 h2 h3;by_cases e:PL i=m
    · simp only[if_pos e];exact(h.c1 i h1 h2).2.2 e
    · simp only[if_neg e];exact h.q1 i h1 h2 Om
  · intro a h1 h2;simp only[if_neg (show a≠m by omega)];by_cases e:PI a=m
    · grind
    · simp only[if_neg e];exact h.q2 a h1 Om
  · have h3:sm (fun a=>if a=m then S else CI a) (m+1)=sm CI m+S:=by
      grind [sm,bx]
    have h4:sm (fun a=>if a=m then S else CI a) c=sm CI c:=bx fun i hi=>by simp only[if_neg (show i≠m by omega)]
    have:=h.iQ;omega
theorem Tr.congr (h:Tr N C m p u c S B0 B CI PL PI) {CI' PL' PI':Nat→Nat} (h1:∀a,a<m→CI' a=CI a) (h2:∀i,u≤i→i<N→PL' i=PL i) (h3:∀a,a<c→PI' a=PI a):Tr N C m p u c S B0 B CI' PL' PI':=by
  have hn:=h.num;constructor
  · exact hn
  · exact h.mB
  · intro i a b;rw[h2 i a b];exact h.pl i a b
  · intro a ha;rw[h3 a ha];exact h.pi a ha
  · intro i j a b d;rw[h2 i a Om,h2 j Om d];exact h.ml i j a b d
  · intro a b d e;rw[h3 a Om,h3 b e];exact h.mi a b d e
  · intro W V hW hV;exact h.w W V (fun i a b=>by rw[←h2 i a b];exact hW i a b) (fun a ha=>by rw[←h3 a ha];exact hV a ha)
  · exact h.bb
  · intro i a b;rw[h2 i a b];exact h.c1 i a b
  · intro a ha;rw[h3 a ha,h1 a Om];exact h.c2 a ha
  · exact h.c3
  · intro a b d;rw[h1 a d];exact h.c4 a b d
  · exact h.cs
  · intro a b d e;rw[h1 a Om,h1 b e];exact h.cm a b d e
  · intro a ha;rw[h1 a ha];exact h.ti a ha
  · intro i a b d e;rw[h2 i a b] at d e ⊢;rw[h3 _ d] at e ⊢;rw[h1 _ e];exact h.g1 i a b d e
  · intro a b d e;rw[h3 a b] at d e ⊢;rw[h3 _ d] at e ⊢;rw[h1 _ e,h1 a Om];exact h.g2 a b d e
  · intro i a b d;rw[h2 i a b] at d ⊢;rw[h1 _ d];exact h.q1 i a b d
  · intro a b d;rw[h3 a b] at d ⊢;rw[h1 _ d,h1 a Om];exact h.q2 a b d
  · rw[bx (W:=CI') (W':=CI) h1,bx (W:=CI') (W':=CI) fun a ha=>h1 a Om];exact h.iQ
theorem Tr.fin (h:Tr N C m 0 u c S B0 B CI PL PI) (hm:m+1=N) (h1:1≤m):u=0∧c+1=m:=by
  have hn:=h.num;by_cases hc:c=m
  · have h2:=h.pi (m-1) Om;omega
  · omega
end
structure Ob (N m:Nat) (PL PI DI DL:Nat→Nat):Prop where
  top:DI (m-1)=0
  U1:∀a,a+1<m→DI a=DI (PI a)+1
  leaf:∀i,i<N→DL i=DI (PL i)+1
section
variable {N:Nat} {C:Nat→Nat} {m S B0 B:Nat} {CI PL PI DI DL:Nat→Nat}
theorem Ob.asL (hd:Ob N m PL PI DI DL) (h:Tr N C m 0 0 (m-1) S B0 B CI PL PI) (h1:1≤m):∀k a b,m-a≤k→a≤b→b<m→DI b≤DI a:=by
  intro k;induction k with
  |zero=>intro a b h2 h3 h4;omega
  |succ k ih=>
    intro a b h2 h3 h4;by_cases hb:b+1=m
    · rw[show b=m-1 by omega,hd.top];exact Nat.zero_le _
    · rw[hd.U1 a Om,hd.U1 b Om];have p1:=h.pi a Om;have p2:=h.pi b Om;have p3:=h.mi a b h3 Om;grind
theorem Ob.mono (hd:Ob N m PL PI DI DL) (h:Tr N C m 0 0 (m-1) S B0 B CI PL PI) (h1:1≤m) {i j:Nat} (DN:i≤j) (hj:j<N):DL i≤DL j:=by
  rw[hd.leaf i Om,hd.leaf j hj];have p1:=h.ml i j (Nat.zero_le _) DN hj;have p2:=h.pl i (Nat.zero_le _) Om;have:=hd.asL h h1 m (PL j) (PL i) Om p1 (p2.2 rfl);omega
theorem Ob.inner (hd:Ob N m PL PI DI DL) (h:Tr N C m 0 0 (m-1) S B0 B CI PL PI) (h1:1≤m):∀k a,DI a≤k→a<m→2^(DI a/2)*CI a≤CI (m-1):=by
  intro k;induction k using Nat.strongRecOn with
  |_ k ih=>
    intro a hk ha;by_cases e1:a+1=m
    · rw[show a=m-1 by omega,hd.top];simp
    · have d1:=hd.U1 a Om;have p1:=h.pi a Om;by_cases e2:PI a+1=m
      · have d2:DI a=1:=by rw[d1,show PI a=m-1 by omega,hd.top]
        have:=h.q2 a Om (p1.2.2 rfl);grind
      · have lt:=p1.2.2 rfl;have d2:=hd.U1 (PI a) Om;have p2:=h.pi (PI a) Om;have g:=h.g2 a Om Om (p2.2.2 rfl);have hi:=ih (DI (PI (PI a))) Om (PI (PI a)) (Nat.le_refl _) (p2.2.2 rfl);have e3:DI a/2=DI (PI (PI a))/2+1:=Om;rw[e3,Nat.pow_succ,Nat.mul_assoc];exact Nat.le_trans (Nat.mul_le_mul_left _ g) hi
theorem Ob.low (hd:Ob N m PL PI DI DL) (h:Tr N C m 0 0 (m-1) S B0 B CI PL PI) (h1:1≤m) {i:Nat} (hi:i<N):2^(DL i/2)*C i≤CI (m-1):=by
  have d1:=hd.leaf i hi;have p1:=h.pl i (Nat.zero_le _) hi;have lt:=p1.2 rfl;by_cases e2:PL i+1=m
  · have d2:DL i=1:=by rw[d1,show PL i=m-1 by omega,hd.top]
    have:=h.q1 i (Nat.zero_le _) hi lt;grind
  · have d2:=hd.U1 (PL i) Om;have p2:=h.pi (PL i) Om;have g:=h.g1 i (Nat.zero_le _) hi Om (p2.2.2 rfl);have KV:=hd.inner h h1 _ (PI (PL i)) (Nat.le_refl _) (p2.2.2 rfl);have e3:DL i/2=DI (PI (PL i))/2+1:=Om;rw[e3,Nat.pow_succ,Nat.mul_assoc];exact Nat.le_trans (Nat.mul_le_mul_left _ g) KV
theorem Tr.root (h:Tr N C m 0 0 (m-1) 0 B0 B CI PL PI) (h1:1≤m):CI (m-1)=sm C N:=by
  have ht:=h.iQ;have h3:sm CI m=sm CI (m-1)+CI (m-1):=by rw[show m=(m-1)+1 by omega];rfl
  grind [sm]
theorem Ob.gf (hd:Ob N m PL PI DI DL) (h:Tr N C m 0 0 (m-1) S B0 B CI PL PI) (h1:1≤m) {L:Nat} (hL:∀i,i<N→DL i≤L) (hI:∀a,a<m→DI a≤L):sm (fun i=>2^(L-DL i)) N=2^L:=by
  have hw:=h.w (fun i=>2^(L-DL i)) (fun a=>2^(L-DI a)) (fun i _ hi=>by
    have:=hL i hi;have d:=hd.leaf i hi;show 2*2^(L-DL i)=2^(L-DI (PL i));rw[show L-DI (PL i)=(L-DL i)+1 by omega,Nat.pow_succ,Nat.mul_comm]) (fun a ha=>by
    have d:=hd.U1 a Om;have:=hI a Om;show 2*2^(L-DI a)=2^(L-DI (PI a));rw[show L-DI (PI a)=(L-DI a)+1 by omega,Nat.pow_succ,Nat.mul_comm])
  have h3:sm (fun a=>2^(L-DI a)) m=sm (fun a=>2^(L-DI a)) (m-1)+2^(L-DI (m-1)):=by
    rw[show m=(m-1)+1 by omega];rfl
  rw[h3,hd.top] at hw;grind [sm]
end
theorem KW {S c L:Nat} (h:S/2^L<c) (hS:1≤S∧S≤65536) (hL:L≤12):1≤c*(4611686018427387904/S)/2^(62-L):=by
  have hp:0<2^L:=Nat.two_pow_pos _;have hq:0<2^(62-L):=Nat.two_pow_pos _;have e0:(4611686018427387904:Nat)=2^(62-L)*2^L:=by
    rw[←Nat.pow_add,show 62-L+L=62 by omega]
  have h1:S+1≤c*2^L:=by
    have:=(Nat.div_lt_iff_lt_mul hp).1 h;omega
  have h2:=Nat.div_add_mod 4611686018427387904 S;have h3:=Nat.mod_lt 4611686018427387904 (show 0<S by omega);have h4:65536≤4611686018427387904/S:=(Nat.le_div_iff_mul_le Om).2 Om;generalize gV:4611686018427387904/S=st at*;have h5:(S+1)*st≤c*2^L*st:=Nat.mul_le_mul_right _ h1;rw[Nat.add_mul,Nat.one_mul] at h5;have h6:2^(62-L)*2^L≤c*st*2^L:=by
    grind
  exact(Nat.le_div_iff_mul_le hq).2 (by rw[Nat.one_mul];exact Nat.le_of_mul_le_mul_right h6 hp)
theorem Oc {S c L:Nat} (h:c≤S) (hS:1≤S) (hL:L≤12):c*(4611686018427387904/S)≤4611686018427387904∧c*(4611686018427387904/S)/2^(62-L)≤2^L:=by
  have hq:0<2^(62-L):=Nat.two_pow_pos _;have e0:(4611686018427387904:Nat)=2^L*2^(62-L):=by
    rw[←Nat.pow_add,show L+(62-L)=62 by omega]
  have h1:c*(4611686018427387904/S)≤4611686018427387904:=Nat.le_trans (Nat.mul_le_mul_right _ h) (Nat.mul_div_le _ _);refine⟨h1,?_⟩;have h2:c*(4611686018427387904/S)/2^(62-L)≤4611686018427387904/2^(62-L):=Nat.div_le_div_right h1;simp_all
theorem DO {cs:Nat→Nat} {k S L:Nat} (hS:sm cs k=S) (rG:0<S) (hk:k<2^L):∃i,i<k∧S/2^L<cs i:=by
  apply Classical.byContradiction;intro hn;have hle:∀i,i<k→cs i≤S/2^L:=fun i hi=>by
    grind
  have hb:∀n,n≤k→sm cs n≤n*(S/2^L):=by
    intro n;induction n with
    |zero=>intro _;simp[sm]
    |succ n ih=>
      grind [sm]
  have h1:=hb k (Nat.le_refl _);rw[hS] at h1;have hp:0<2^L:=Nat.two_pow_pos _;have h2:2^L*(S/2^L)≤S:=Nat.mul_div_le _ _;rcases Nat.eq_zero_or_pos (S/2^L) with h3|h3
  · grind
  · have h4:k*(S/2^L)<2^L*(S/2^L):=Nat.mul_lt_mul_of_pos_right hk h3;omega
theorem Gi {v D t:Nat} (ht:1≤t) (hv:2≤v) (WA:t≤2^(v-1)):(2^(v-1)-1+t*((2^v*D+(2^(v-1)-1))/t))/2^v=D:=by
  have hp:0<2^v:=Nat.two_pow_pos _;have e:2^v=2*2^(v-1):=by
    have:2^(v-1+1)=2^(v-1)*2:=Nat.pow_succ _ _;grind
  have h1:=Nat.div_add_mod (2^v*D+(2^(v-1)-1)) t;have h2:=Nat.mod_lt (2^v*D+(2^(v-1)-1)) (show 0<t by omega);have hp1:0<2^(v-1):=Nat.two_pow_pos _;generalize hX:t*((2^v*D+(2^(v-1)-1))/t)=X at*;rw[show 2^(v-1)-1+X=(2^(v-1)-1+X-2^v*D)+2^v*D by omega,Nat.add_mul_div_left _ _ hp,Nat.div_eq_of_lt Om];omega
abbrev mR:Nat:=4042322160
theorem Jw:256<mR:=by decide
def kr (M:Nat):List Nat→Nat
  |[]=>0
  |b::bs=>2^(M-b)+kr M bs
def kZ (M:Nat):List Nat→Nat
  |[]=>0
  |b::bs=>(if b=M then 1 else 0)+kZ M bs
theorem ab0 {bs:List Nat} {p c i:Nat} (hp:p<bs.length):(bs.set p c).getD i 0=if i=p then c else bs.getD i 0:=by
  grind
theorem Gj {M:Nat}:∀{bs:List Nat} {p c:Nat},p<bs.length→kr M (bs.set p c)+2^(M-bs.getD p 0)=kr M bs+2^(M-c)
  |[],p,c,h=>by simp at h
  |b::bs,0,c,_=>by simp only[List.set_cons_zero,kr,List.getD_cons_zero];omega
  |b::bs,p+1,c,h=>by
    have:=Gj (M:=M) (bs:=bs) (p:=p) (c:=c) (by simpa using h);grind [kr]
theorem xH {M:Nat}:∀{bs:List Nat} {p c:Nat},p<bs.length→kZ M (bs.set p c)+(if bs.getD p 0=M then 1 else 0)=kZ M bs+(if c=M then 1 else 0)
  |[],p,c,h=>by simp at h
  |b::bs,0,c,_=>by simp only[List.set_cons_zero,kZ,List.getD_cons_zero];omega
  |b::bs,p+1,c,h=>by
    have:=xH (M:=M) (bs:=bs) (p:=p) (c:=c) (by simpa using h);grind [kZ]
theorem Oe {M k:Nat}:∀{bs:List Nat},(∀i,i<bs.length→bs.getD i 0=M∨bs.getD i 0+k≤M)→∃q,kr M bs=kZ M bs+2^k*q
  |[],_=>⟨0,rfl⟩
  |b::bs,h=>by
    obtain⟨q,hq⟩:=Oe (M:=M) (k:=k) (bs:=bs) fun i hi=>by
      have:=h (i+1) (by simpa using hi);grind
    have h0:=h 0 Oi;simp only[List.getD_cons_zero] at h0;by_cases hb:b=M
    · grind [kr,kZ]
    · have h1:b+k≤M:=h0.resolve_left hb;refine⟨2^(M-b-k)+q,?_⟩;have e:2^(M-b)=2^k*2^(M-b-k):=by rw[←Nat.pow_add];congr 1;omega
      grind [kr,kZ]
theorem Br {M:Nat}:∀{bs:List Nat},kZ M bs≤bs.length
  |[]=>Nat.le_refl _
  |b::bs=>by have:=Br (M:=M) (bs:=bs);simp only[kZ,List.length_cons];split<;>omega
theorem tB {M:Nat}:∀{bs:List Nat},0<kZ M bs→∃i,i<bs.length∧bs.getD i 0=M
  |[],h=>by simp[kZ] at h
  |b::bs,h=>by
    by_cases hb:b=M
    · exact⟨0,Oi,by simpa using hb⟩
    · simp only[kZ,if_neg hb,Nat.zero_add] at h;obtain⟨i,hi,he⟩:=tB h;exact⟨i+1,by simpa using hi,by simpa using he⟩
theorem Gk {M:Nat}:∀{bs:List Nat},(∀i,i<bs.length→bs.getD i 0=M)→kr M bs=bs.length
  |[],_=>rfl
  |b::bs,h=>by
    have h0:=h 0 Oi;simp only[List.getD_cons_zero] at h0;have:=Gk (M:=M) (bs:=bs) fun i hi=>by simpa using h (i+1) (by simpa using hi)
    grind [kr]
def Rk (M:Nat) (bs:List Nat) (k v:Nat):Prop:=
  (v=mR∧∀i,i<bs.length→bs.getD i 0+k≠M)∨(v<bs.length∧bs.getD v 0+k=M∧∀i,v<i→i<bs.length→bs.getD i 0+k≠M)
structure xI (M:Nat) (bs:List Nat) (T:Int) (rl:List Nat):Prop where
  M11:M≤11
  len:bs.length≤256∧bs.length≤2^M
  mB:∀i j,i≤j→j<bs.length→bs.getD i 0≤bs.getD j 0
  sK:∀i,i<bs.length→1≤bs.getD i 0∧bs.getD i 0≤M
  sum:(kr M bs:Int)=((2^M:Nat):Int)+T
  mm:T<(kZ M bs:Int)∧ -T<(kZ M bs:Int)
  ex:T<0→∃i,i<bs.length∧bs.getD i 0<M
  ab1:rl.length=13
  rk:∀k,1≤k→k≤12→Rk M bs k (rl.getD k 0)
theorem xI.short {M:Nat} {bs rl:List Nat} {T:Int} (h:xI M bs T rl) (hT:0<T):∃i,i<bs.length∧bs.getD i 0<M:=by
  apply Classical.byContradiction;intro hn;have ha:∀i,i<bs.length→bs.getD i 0=M:=fun i hi=>by
    have h1:=h.sK i hi;grind
  have h1:=Gk ha;have h2:=h.sum;have h3:=h.len.2;omega
theorem xI.some {M:Nat} {bs rl:List Nat} {T:Int} (h:xI M bs T rl) (hT:0<T):∃k,1≤k∧k≤10∧rl.getD k 0≠mR:=by
  obtain⟨i,hi,hl⟩:=h.short hT;have h1:=h.sK i hi;have h2:=h.M11;refine⟨M-bs.getD i 0,Om,Om,fun e=>?_⟩;rcases h.rk (M-bs.getD i 0) Om Om with ⟨_,hn⟩|⟨hv,_⟩
  · grind
  · have:=h.len.1;have:=Jw;rw[e] at hv;omega
theorem xI.at_ {M:Nat} {bs rl:List Nat} {T:Int} (h:xI M bs T rl) {k:Nat} (h1:1≤k) (h2:k≤12) (hk:rl.getD k 0≠mR):
    rl.getD k 0<bs.length∧bs.getD (rl.getD k 0) 0+k=M∧∀i,rl.getD k 0<i→i<bs.length→bs.getD i 0+k≠M:=by
  rcases h.rk k h1 h2 with ⟨e,_⟩|e
  · omega
  · exact e
def u5 (M:Nat) (bs rl:List Nat) (k p:Nat):List Nat:=
  let r1:=if rl.getD (k-1) 0=mR then rl.set (k-1) p else rl
  if p=0 then r1.set k mR else if bs.getD (p-1) 0+k=M then r1.set k (p-1) else r1.set k mR
theorem Gl (M:Nat) (bs rl:List Nat) (k p:Nat):(u5 M bs rl k p).length=rl.length:=by
  grind [u5]
theorem Gm {M:Nat} {bs rl:List Nat} {k p j:Nat} (hl:rl.length=13) (h1:1≤k) (h2:k≤12):(u5 M bs rl k p).getD j 0=
    if j=k then (if p=0 then mR else if bs.getD (p-1) 0+k=M then p-1 else mR) else if j=k-1∧rl.getD (k-1) 0=mR then p else rl.getD j 0:=by
  grind [u5]
theorem xI.step {M:Nat} {bs rl:List Nat} {T:Int} (h:xI M bs T rl) (hT:0<T) {k:Nat} (h1:1≤k) (h2:k≤12) (hk:rl.getD k 0≠mR)
    (hc:((2^(k-1):Nat):Int)≤T∨(T<((2^(k-1):Nat):Int)∧∀j,1≤j→j<k→rl.getD j 0=mR)):
    xI M (bs.set (rl.getD k 0) (M-k+1)) (T-((2^(k-1):Nat):Int)) (u5 M bs rl k (rl.getD k 0)):=by
  obtain⟨hp,hb,o9⟩:=h.at_ h1 h2 hk;generalize hpe:rl.getD k 0=p at*;have hbp:=h.sK p hp;have hkM:k<M:=Om;have iR:∀i,(bs.set p (M-k+1)).getD i 0=if i=p then M-k+1 else bs.getD i 0:=fun i=>ab0 hp
  have hlen:(bs.set p (M-k+1)).length=bs.length:=List.length_set;have e1:2^(M-bs.getD p 0)=2^k:=by congr 1;omega
  have e2:2^(M-(M-k+1))=2^(k-1):=by congr 1;omega
  have e3:2^k=2*2^(k-1):=by rw[show k=(k-1)+1 by omega,Nat.pow_succ];simp;omega
  have hkr:=Gj (M:=M) (c:=M-k+1) hp;have U2:=xH (M:=M) (c:=M-k+1) hp;rw[e1,e2] at hkr;rw[if_neg Om] at U2;have hs:=h.sum;have hm:=h.mm;have rG:0<2^(k-1):=Nat.two_pow_pos _;refine⟨h.M11,by rw[hlen];exact h.len,?_,?_,Om,?_,?_,by rw[Gl];exact h.ab1,?_⟩
  · intro i j DN hj;rw[hlen] at hj;rw[iR,iR];have A0:=h.mB i j DN hj;grind
  · intro i hi;rw[hlen] at hi;rw[iR];split
    · omega
    · exact h.sK i hi
  · -- the number of those of M bits stays above the debt, and pays what is too much
    rcases hc with hc|⟨hc,rO⟩
    · omega
    · have sN:∀i,i<bs.length→bs.getD i 0=M∨bs.getD i 0+k≤M:=fun i hi=>by
        have hr:=h.sK i hi;rcases Nat.lt_or_ge M (bs.getD i 0+k) with h3|h3
        · rcases Nat.lt_or_ge (bs.getD i 0) M with h4|h4
          · exfalso
            rcases h.rk (M-bs.getD i 0) Om Om with ⟨_,hn⟩|⟨hv,_⟩
            · grind
            · rw[rO _ Om Om] at hv;have:=h.len.1;grind
          · left;omega
        · omega
      obtain⟨q,hq⟩:=Oe sN;have xw:k≠1:=by
        grind
      rw[if_neg Om] at U2
      -- cntB = T mod 2^k, and more than T
      have hMk:2^M=2^k*2^(M-k):=by rw[←Nat.pow_add];congr 1;omega
      have wC:T+((2^k:Nat):Int)≤(kZ M bs:Int):=by
        have e4:(kZ M bs:Int)-T=((2^k:Nat):Int)*(((2^(M-k):Nat):Int)-(q:Int)):=by
          grind
        have h5:0<(((2^(M-k):Nat):Int)-(q:Int)):=by
          apply Classical.byContradiction;intro hn;have h6:((2^k:Nat):Int)*(((2^(M-k):Nat):Int)-(q:Int))≤0:=Int.mul_nonpos_of_nonneg_of_nonpos (Int.natCast_nonneg _) Om;omega
        have h7:((2^k:Nat):Int)*1≤((2^k:Nat):Int)*(((2^(M-k):Nat):Int)-(q:Int)):=Int.mul_le_mul_of_nonneg_left Om (Int.natCast_nonneg _);omega
      omega
  · grind
  · intro j FD CC;rw[Gm h.ab1 h1 h2];by_cases hjk:j=k
    · subst hjk;rw[if_pos rfl];by_cases hp0:p=0
      · rw[if_pos hp0];left;grind
      · rw[if_neg hp0];by_cases hq:bs.getD (p-1) 0+j=M
        · rw[if_pos hq];right;grind
        · rw[if_neg hq];left;refine⟨rfl,fun i hi=>?_⟩;rw[hlen] at hi;rw[iR];split
          · omega
          · rename_i hip;rcases Nat.lt_or_ge p i with h3|h3
            · grind
            · have s1:=h.mB i (p-1) Om Om;have s2:=h.mB (p-1) p Om hp;omega
    · rw[if_neg hjk];by_cases hj:j=k-1∧rl.getD (k-1) 0=mR
      · rw[if_pos hj];obtain⟨hj3,hj4⟩:=hj;subst hj3;right;refine⟨by rw[hlen];exact hp,by rw[iR,if_pos rfl];omega,fun i hi1 KV=>?_⟩;rw[hlen] at KV;rw[iR,if_neg Om];rcases h.rk (k-1) FD CC with ⟨_,hn⟩|⟨hv,_⟩
        · exact hn i KV
        · rw[hj4] at hv;have:=h.len.1;have:=Jw;omega
      · rw[if_neg hj];rcases h.rk j FD CC with ⟨hv,hn⟩|⟨hv,hve,hvl⟩
        · left;refine⟨hv,fun i hi=>?_⟩;rw[hlen] at hi;rw[iR];split
          · intro e;exact hj ⟨Om,by rw[show k-1=j by omega];exact hv⟩
          · exact hn i hi
        · right;have hvp:rl.getD j 0≠p:=fun e=>by rw[e] at hve;omega
          refine⟨by rw[hlen];exact hv,by rw[iR,if_neg hvp];exact hve,fun i hi1 KV=>?_⟩;rw[hlen] at KV;rw[iR];split
          · rename_i hip;intro e
            -- then j = k - 1, and its last place lies behind p
            have aHx:j=k-1:=Om;have s1:=h.mB (rl.getD j 0) p Om hp;omega
          · grind
structure xJ (M:Nat) (bs:List Nat) (T:Int) (v n:Nat):Prop where
  M11:M≤11
  len:bs.length≤256∧bs.length≤2^M
  mB:∀i j,i≤j→j<bs.length→bs.getD i 0≤bs.getD j 0
  sK:∀i,i<bs.length→1≤bs.getD i 0∧bs.getD i 0≤M
  sum:(kr M bs:Int)=((2^M:Nat):Int)+T
  T0:T≤0
  mm: -T<(kZ M bs:Int)
  ex:T<0→∃i,i<bs.length∧bs.getD i 0<M
  rk:Rk M bs 1 v
  nn:v=mR→n<bs.length∧∀i,n<i→i<bs.length→bs.getD i 0=M
theorem xI.pay {M n:Nat} {bs rl:List Nat} {T:Int} (h:xI M bs T rl) (hT:T≤0) (hn:n<bs.length∧∀i,n<i→i<bs.length→bs.getD i 0=M):xJ M bs T (rl.getD 1 0) n:=
  ⟨h.M11,h.len,h.mB,h.sK,h.sum,hT,h.mm.2,h.ex,h.rk 1 Om Om,fun _=>hn⟩
theorem xJ.put {M v n q:Nat} {bs:List Nat} {T:Int} (h:xJ M bs T v n) (hT:T<0) (hq:q<bs.length) (hM:bs.getD q 0=M) (hl:∀i,i<q→bs.getD i 0<M) (n':Nat):xJ M (bs.set q (M-1)) (T+1) q n':=by
  obtain⟨i0,hi0,uv⟩:=h.ex hT;have h0:=h.sK i0 hi0;have iR:∀i,(bs.set q (M-1)).getD i 0=if i=q then M-1 else bs.getD i 0:=fun i=>ab0 hq
  have hlen:(bs.set q (M-1)).length=bs.length:=List.length_set;have hkr:=Gj (M:=M) (c:=M-1) hq;have U2:=xH (M:=M) (c:=M-1) hq;have e2:2^(M-(M-1))=2:=by rw[show M-(M-1)=1 by omega]
  rw[hM,Nat.sub_self,e2] at hkr;rw[if_pos hM,if_neg Om] at U2;have hs:=h.sum;have hm:=h.mm;refine⟨h.M11,by rw[hlen];exact h.len,?_,?_,by simp at hkr;omega,Om,Om,?_,?_,?_⟩
  · intro i j DN hj;rw[hlen] at hj;rw[iR,iR];have A0:=h.mB i j DN hj;grind
  · intro i hi;rw[hlen] at hi;rw[iR];split
    · omega
    · exact h.sK i hi
  · grind
  · right;refine⟨by rw[hlen];exact hq,by rw[iR,if_pos rfl];omega,fun i hi1 KV=>?_⟩;rw[hlen] at KV;rw[iR,if_neg Om];have:=h.mB q i Om KV;omega
  · intro e;have:=h.len.1;grind
theorem xJ.next {M v n:Nat} {bs:List Nat} {T:Int} (h:xJ M bs T v n) (hT:T<0) (hv:v≠mR):v+1<bs.length∧bs.getD (v+1) 0=M∧∀i,i<v+1→bs.getD i 0<M:=by
  rcases h.rk with ⟨e,_⟩|⟨h1,h2,h3⟩
  · omega
  · have hm:=h.mm;obtain⟨i,hi,he⟩:=tB (M:=M) (bs:=bs) Om;have h4:v<i:=by
      rcases Nat.lt_or_ge v i with h5|h5
      · exact h5
      · have:=h.mB i v h5 h1;omega
    have h5:=h.mB v (v+1) Om Om;have h6:=h3 (v+1) Om Om;have h7:=h.sK (v+1) Om;refine⟨Om,Om,fun j hj=>?_⟩;have:=h.mB j v Om h1;omega
theorem xJ.first {M v n n':Nat} {bs:List Nat} {T:Int} (h:xJ M bs T v n) (hT:T<0) (h1:n'<bs.length) (h2:bs.getD n' 0≠M) (h3:∀i,n'<i→i<bs.length→bs.getD i 0=M):n'+1<bs.length∧bs.getD (n'+1) 0=M∧∀i,i<n'+1→bs.getD i 0<M:=by
  have hm:=h.mm;obtain⟨i,hi,he⟩:=tB (M:=M) (bs:=bs) Om;have hr:=h.sK n' h1;have h4:n'<i:=by
    rcases Nat.lt_or_ge n' i with h5|h5
    · exact h5
    · have:=h.mB i n' h5 h1;omega
  refine⟨Om,h3 _ Om Om,fun j hj=>?_⟩;have:=h.mB j n' Om h1;omega
theorem j7 {W:Nat→Nat}:∀{n:Nat},sm W (n+1)=W 0+sm (fun i=>W (i+1)) n
  |0=>by simp[sm]
  |n+1=>by
    have:=j7 (W:=W) (n:=n);grind [sm]
theorem u6 {W:Nat→Nat} {a:Nat}:∀{b:Nat},sm W (a+b)=sm W a+sm (fun j=>W (a+j)) b
  |0=>by simp[sm]
  |b+1=>by
    (simp[sm,u6];omega)
theorem wI {V W:Nat→Nat}:∀{n:Nat},sm (fun i=>V i+W i) n=sm V n+sm W n
  |0=>rfl
  |n+1=>by simp only[sm];rw[wI (n:=n)];omega
theorem Bs {W:Nat→Nat} {k:Nat}:∀{n:Nat},sm (fun i=>k*W i) n=k*sm W n
  |0=>by simp[sm]
  |n+1=>by simp only[sm];rw[Bs (n:=n),Nat.mul_add]
theorem fI {k:Nat}:∀{n:Nat},sm (fun _=>k) n=n*k
  |0=>by simp[sm]
  |n+1=>by simp only[sm];rw[fI (n:=n),Nat.add_mul];omega
theorem Of {W:Nat→Nat} {n:Nat} (hn:0<n) (h:∀i,i<n→0<W i):0<sm W n:=by
  cases n with
  |zero=>omega
  |succ n=>simp only[sm];have:=h n Om;omega
theorem Jx {V W:Nat→Nat}:∀{n:Nat},(∀i,i<n→V i≤W i)→sm V n≤sm W n
  |0,_=>Nat.le_refl _
  |n+1,h=>by
    have h1:=Jx (V:=V) (W:=W) (n:=n) fun i hi=>h i Om
    grind [sm]
theorem Og {M:Nat}:∀{bs:List Nat},kr M bs=sm (fun i=>2^(M-bs.getD i 0)) bs.length
  |[]=>rfl
  |b::bs=>by
    simp_all [j7,kr,Og]
theorem Jy {M:Nat}:∀{bs:List Nat},kZ M bs=sm (fun i=>if bs.getD i 0=M then 1 else 0) bs.length
  |[]=>rfl
  |b::bs=>by
    simp_all [j7,kZ,Jy]
theorem ab2 {M L N n:Nat} {b0:Nat→Nat} {bs:List Nat} (hML:M<L) (hn:n+1<N) (h1:∀i,i≤n→b0 i≤M) (h2:∀i,n<i→i<N→M<b0 i∧b0 i≤L) (hk:sm (fun i=>2^(L-b0 i)) N=2^L)
    (hlen:bs.length=N) (hb:∀i,i<N→bs.getD i 0=if i≤n then b0 i else M):
    ∃T,sm (fun j=>2^(L-M)-2^(L-b0 (n+1+j))) (N-1-n)=T*2^(L-M)∧1≤T∧kr M bs=2^M+T∧T<kZ M bs:=by
  have hN:N=(n+1)+(N-1-n):=Om;have e1:2^(L-M)*kr M bs=sm (fun i=>2^(L-b0 i)) (n+1)+(N-1-n)*2^(L-M):=by
    rw[Og, ←Bs,hlen];rw[show sm (fun i=>2^(L-M)*2^(M-bs.getD i 0)) N=sm (fun i=>2^(L-M)*2^(M-bs.getD i 0)) ((n+1)+(N-1-n)) by rw[←hN],u6];congr 1
    · apply bx;intro i hi;rw[hb i Om,if_pos Om, ←Nat.pow_add];grind
    · grind [fI,bx]
  have e2:sm (fun i=>2^(L-b0 i)) (n+1)+sm (fun j=>2^(L-b0 (n+1+j))) (N-1-n)=2^L:=by
    rw[←hk]
    conv=>rhs;rw[hN]
    exact(u6 (a:=n+1)).symm
  have e3:sm (fun j=>2^(L-M)-2^(L-b0 (n+1+j))) (N-1-n)+sm (fun j=>2^(L-b0 (n+1+j))) (N-1-n)=(N-1-n)*2^(L-M):=by
    rw[←wI, ←fI (k:=2^(L-M))];apply bx;intro j hj;have:=h2 (n+1+j) Om Om;have h3:2^(L-b0 (n+1+j))≤2^(L-M):=Nat.pow_le_pow_right Om Om;omega
  have e4:2^L=2^(L-M)*2^M:=by rw[←Nat.pow_add];congr 1;omega
  have hp:0<2^(L-M):=Nat.two_pow_pos _;have e5:2^(L-M)*kr M bs=2^(L-M)*2^M+sm (fun j=>2^(L-M)-2^(L-b0 (n+1+j))) (N-1-n):=Om;have wC:2^M≤kr M bs:=by
    apply Nat.le_of_mul_le_mul_left _ hp;omega
  refine⟨kr M bs-2^M,?_,?_,Om,?_⟩
  · rw[Nat.mul_comm,Nat.mul_sub];omega
  · apply Nat.pos_of_ne_zero;intro h0;have e6:kr M bs=2^M:=Om;rw[e6] at e5;have:0<sm (fun j=>2^(L-M)-2^(L-b0 (n+1+j))) (N-1-n):=by
      apply Of Om;intro j hj;have:=h2 (n+1+j) Om Om;have h3:2^(L-b0 (n+1+j))<2^(L-M):=Nat.pow_lt_pow_right Om Om;omega
    omega
  · have hc:N-1-n≤kZ M bs:=by
      rw[Jy,hlen]
      conv=>rhs;rw[hN]
      rw[u6 (a:=n+1)];have:sm (fun j=>if bs.getD (n+1+j) 0=M then 1 else 0) (N-1-n)=N-1-n:=by
        rw[show sm (fun j=>if bs.getD (n+1+j) 0=M then 1 else 0) (N-1-n)=sm (fun _=>1) (N-1-n) from bx fun j hj=>by rw[if_pos (by rw[hb _ Om,if_neg Om])],fI,Nat.mul_one]
      omega
    have hs:0<sm (fun j=>2^(L-b0 (n+1+j))) (N-1-n):=Of Om fun j _=>Nat.two_pow_pos _
    have:2^(L-M)*(kr M bs-2^M)<2^(L-M)*(N-1-n):=by
      rw[Nat.mul_sub,Nat.mul_comm (2^(L-M)) (N-1-n)];omega
    have:=Nat.lt_of_mul_lt_mul_left this;omega
def ct (P:Nat→Bool):Nat→Nat
  |0=>0
  |n+1=>ct P n+(bif P n then 1 else 0)
theorem Bt {P:Nat→Bool}:∀{m n:Nat},m≤n→ct P m≤ct P n
  |m,0,h=>by rw[Nat.le_zero.1 h];exact Nat.le_refl _
  |m,n+1,h=>by
    rcases Nat.lt_or_ge m (n+1) with h1|h1
    · have:=Bt (P:=P) (m:=m) (n:=n) Om;simp only[ct];omega
    · grind
theorem ajq {P:Nat→Bool} {m n:Nat} (h:m<n) (hP:P m=true):ct P m<ct P n:=by
  have:=Bt (P:=P) (m:=m+1) (n:=n) h;grind [ct]
theorem ajr {m n:Nat} (h:m≤n):Nat.ble m n=true:=Nat.ble_eq_true_of_le h
theorem ab3 {m n:Nat} (h:n<m):Nat.ble m n=false:=by
  cases e:Nat.ble m n with
  |true=>have:=Nat.le_of_ble_eq_true e;omega
  |false=>rfl
theorem ab4 {m n:Nat} (h:m=n):Nat.beq m n=true:=by subst h;exact Nat.beq_refl m
theorem Oh {m n:Nat} (h:m≠n):Nat.beq m n=false:=by
  cases e:Nat.beq m n with
  |true=>exact(h (Nat.eq_of_beq_eq_true e)).elim
  |false=>rfl
def bk (h:Nat→Nat) (len r:Nat):Nat:=ct (fun x=>Nat.ble (r+1) (h x)) len
def k7 (h:Nat→Nat) (r n:Nat):Nat:=ct (fun x=>Nat.beq (h x) r) n
theorem JA {P:Nat→Bool}:∀{n:Nat},ct P n≤n
  |0=>Nat.le_refl _
  |n+1=>by have:=JA (P:=P) (n:=n);simp only[ct];cases P n<;>simp<;>omega
theorem qw (h:Nat→Nat) (r:Nat):∀len:Nat,bk h len (r+1)+k7 h (r+1) len=bk h len r
  |0=>rfl
  |n+1=>by
    have:=qw h r n;grind [bk,k7,ct,ab3,Oh,ab4,ajr]
theorem tC (h:Nat→Nat):∀len:Nat,bk h len 0+k7 h 0 len=len
  |0=>rfl
  |n+1=>by
    have:=tC h n;grind [bk,k7,ct,ab3,ab4,ajr,Oh]
structure HS (len:Nat) (c h:Nat→Nat) (n:Nat) (Z:Nat→Nat × Nat):Prop where
  Bu:∀x,x<n→∃i,bk h len (h x)≤i∧i<bk h len (h x)+k7 h (h x) n∧Z i=(c x,x)
  out:∀r i,bk h len r≤i→i<bk h len r+k7 h r n→∃x,x<n∧h x=r∧Z i=(c x,x)
  mB:∀r i j,bk h len r≤i→i≤j→j<bk h len r+k7 h r n→(Z j).1≤(Z i).1
theorem HS.begin (len:Nat) (c h:Nat→Nat) (Z:Nat→Nat × Nat):HS len c h 0 Z:=⟨fun x hx=>Om,fun r i h1 h2=>by simp[k7,ct] at h2;omega,fun r i j h1 h2 h3=>by simp[k7,ct] at h3;omega⟩
theorem DP {h:Nat→Nat} {n len:Nat} (hn:n<len):k7 h (h n) n<k7 h (h n) len:=ajq hn Oi
theorem JB {h:Nat→Nat} {len:Nat}:∀{r s:Nat},r≤s→bk h len s≤bk h len r
  |r,0,Ol=>by rw[Nat.le_zero.1 Ol];exact Nat.le_refl _
  |r,s+1,Ol=>by
    rcases Nat.lt_or_ge r (s+1) with h1|h1
    · have h2:=JB (h:=h) (len:=len) (r:=r) (s:=s) Om;grind [qw]
    · rw[show r=s+1 by omega];exact Nat.le_refl _
theorem tD {h:Nat→Nat} {len r s:Nat} (Ol:r<s):bk h len s+k7 h s len≤bk h len r:=by
  obtain⟨k,rfl⟩:∃k,s=k+1:=⟨s-1,Om⟩;rw[qw h k len];exact JB Om
theorem HS.put {len n p:Nat} {c h:Nat→Nat} {Z Z':Nat→Nat × Nat} (H:HS len c h n Z) (hn:n<len) (hp:bk h len (h n)≤p∧p≤bk h len (h n)+k7 h (h n) n)
    (rO:p=bk h len (h n)∨c n≤(Z (p-1)).1) (ajs:∀i,p≤i→i<bk h len (h n)+k7 h (h n) n→(Z i).1<c n)
    (z1:∀i,i<p→Z' i=Z i) (z2:Z' p=(c n,n)) (z3:∀i,p≤i→i<bk h len (h n)+k7 h (h n) n→Z' (i+1)=Z i) (z4:∀i,bk h len (h n)+k7 h (h n) n<i→Z' i=Z i):HS len c h (n+1) Z':=by
  have ja:=DP (h:=h) hn;have jz:k7 h (h n) (n+1)=k7 h (h n) n+1:=by simp[k7,ct]
  have hot:∀r,r≠h n→k7 h r (n+1)=k7 h r n:=fun r hr=>by
    grind [k7,ct,Oh]
  have hle:∀r,k7 h r n≤k7 h r len:=fun r=>Bt Om
  -- other buckets are left as they are
  have Y7:∀r,r≠h n→∀i,bk h len r≤i→i<bk h len r+k7 h r n→Z' i=Z i:=fun r hr i h1 h2=>by
    have h3:=hle r;rcases Nat.lt_or_gt_of_ne hr with h4|h4
    · have:=tD (h:=h) (len:=len) h4;grind
    · have:=tD (h:=h) (len:=len) h4;grind
  refine⟨fun x hx=>?_,fun r i h1 h2=>?_,fun r i j h1 h2 h3=>?_⟩
  · by_cases e:x=n
    · grind
    · obtain⟨i,i1,i2,i3⟩:=H.Bu x Om;grind
  · by_cases er:r=h n
    · subst er;rw[jz] at h2;rcases Nat.lt_trichotomy i p with h5|h5|h5
      · obtain⟨x,x1,x2,x3⟩:=H.out (h n) i h1 Om;grind
      · grind
      · obtain⟨k,rfl⟩:∃k,i=k+1:=⟨i-1,Om⟩;obtain⟨x,x1,x2,x3⟩:=H.out (h n) k Om Om;grind
    · rw[hot r er] at h2;obtain⟨x,x1,x2,x3⟩:=H.out r i h1 h2;grind
  · by_cases er:r=h n
    · subst er;rw[jz] at h3
      -- the new one and what was there
      have key:∀i,bk h len (h n)≤i→i<bk h len (h n)+k7 h (h n) n+1→(i<p∧Z' i=Z i)∨(i=p∧Z' i=(c n,n))∨(p<i∧Z' i=Z (i-1)):=fun i a b=>by
        grind
      rcases key i h1 Om with ⟨a,ea⟩|⟨a,ea⟩|⟨a,ea⟩<;>rcases key j Om Om with ⟨b,eb⟩|⟨b,eb⟩|⟨b,eb⟩<;>rw[ea,eb]
      · exact H.mB (h n) i j h1 h2 Om
      · rcases rO with rO|rO
        · omega
        · exact Nat.le_trans rO (H.mB (h n) i (p-1) h1 Om Om)
      · exact H.mB (h n) i (j-1) h1 Om Om
      · omega
      · omega
      · exact Nat.le_of_lt (ajs (j-1) Om Om)
      · omega
      · omega
      · exact H.mB (h n) (i-1) (j-1) Om Om Om
    · rw[hot r er] at h3;rw[Y7 r er i h1 Om,Y7 r er j Om h3];exact H.mB r i j h1 h2 h3
theorem Bv {h:Nat→Nat} {len R:Nat} (hR:bk h len R=0) {i:Nat} (hi:i<len):∃r,bk h len r≤i∧i<bk h len r+k7 h r len:=by
  have:∀k r,r+k=R→(r=0∨i<bk h len (r-1))→∃r,bk h len r≤i∧i<bk h len r+k7 h r len:=by
    intro k;induction k with
    |zero=>
      intro r hr eU;refine⟨r,by rw[show r=R by omega,hR];exact Nat.zero_le _,?_⟩;rcases eU with h0|h0
      · grind [tC]
      · have:=qw h (r-1) len;grind
    |succ k ih=>
      intro r hr eU;rcases Nat.lt_or_ge i (bk h len r) with h1|h1
      · exact ih (r+1) Om (.inr (by simpa using h1))
      · refine⟨r,h1,?_⟩;rcases eU with h0|h0
        · grind [tC]
        · have:=qw h (r-1) len;grind
  exact this R 0 Om (.inl rfl)
theorem HS.fin {len R:Nat} {c h:Nat→Nat} {Z:Nat→Nat × Nat} (H:HS len c h len Z) (hR:bk h len R=0) (hc:∀x y,x<len→y<len→h x<h y→c x≤c y):
    (∀i,i<len→∃x,x<len∧Z i=(c x,x))∧(∀x,x<len→∃i,i<len∧Z i=(c x,x))∧(∀i j,i≤j→j<len→(Z j).1≤(Z i).1):=by
  refine⟨fun i hi=>?_,fun x hx=>?_,fun i j DN hj=>?_⟩
  · obtain⟨r,r1,r2⟩:=Bv hR hi;obtain⟨x,x1,_,x3⟩:=H.out r i r1 r2;grind
  · obtain⟨i,i1,i2,i3⟩:=H.Bu x hx;refine⟨i,?_,i3⟩;have h1:=tC h len;by_cases e:h x=0
    · grind
    · have h2:=tD (h:=h) (len:=len) (r:=0) (s:=h x) Om;omega
  · obtain⟨r,r1,r2⟩:=Bv hR (show i<len by omega);obtain⟨s,s1,s2⟩:=Bv hR hj;rcases Nat.lt_trichotomy r s with h1|h1|h1
    · have:=tD (h:=h) (len:=len) h1;omega
    · subst h1;exact H.mB r i j r1 DN s2
    · obtain⟨x,x1,x2,x3⟩:=H.out r i r1 r2;obtain⟨y,y1,y2,y3⟩:=H.out s j s1 s2;grind
theorem Bw {W:Nat→Nat} {j v:Nat}:∀{n:Nat},j<n→sm (fun i=>if i=j then v else W i) n+W j=sm W n+v
  |0,h=>by omega
  |n+1,h=>by
    by_cases e:j=n
    · grind [sm,bx]
    · have:=Bw (W:=W) (j:=j) (v:=v) (n:=n) Om;grind [sm]
theorem xK {v:Nat}:∀{n:Nat},v<n→sm (fun x=>if x=v then 1 else 0) n=1
  |0,h=>by omega
  |n+1,h=>by
    by_cases e:v=n
    · subst e;simp only[sm,if_true];rw[bx (W:=fun x=>if x=v then 1 else 0) (W':=fun _=>0) fun i hi=>by simp only[if_neg (show i≠v by omega)],fI];omega
    · have:=xK (v:=v) (n:=n) Om;grind [sm]
theorem JC {W:Nat→Nat}:∀{n:Nat},sm W n≠0→∃i,i<n∧W i≠0
  |0,h=>(h rfl).elim
  |n+1,h=>by
    by_cases e:W n=0
    · obtain⟨i,hi,hw⟩:=JC (W:=W) (n:=n) (by simp only[sm] at h;omega);grind
    · exact⟨n,Om,e⟩
theorem Bx:∀{n:Nat} {g:Nat→Nat},(∀i,i<n→g i<n)→(∀i j,i<n→j<n→g i=g j→i=j)→∀W:Nat→Nat,sm (fun i=>W (g i)) n=sm W n
  |0,_,_,_,_=>rfl
  |n+1,g,hg,hi,W=>by
    have hv:=hg n Om;by_cases hj:∃j,j<n∧g j=n
    · obtain⟨j,hjn,hjg⟩:=hj
      -- j and n change their places
      have hvn:g n≠n:=fun e=>by have:=hi j n Om Om (by rw[hjg,e]);omega
      have ih:=Bx (n:=n) (g:=fun i=>if i=j then g n else g i) (fun i jz=>by
        show(if i=j then g n else g i)<n;split
        · omega
        · rename_i v9;have h1:=hg i Om;have:g i≠n:=fun e=>v9 (hi i j Om Om (by rw[e,hjg]))
          omega) (fun a b ha hb KX=>by
        change (if a=j then g n else g a)=(if b=j then g n else g b) at KX
        by_cases ea:a=j
        · grind
        · by_cases eb:b=j
          · grind
          · rw[if_neg ea,if_neg eb] at KX;exact hi a b Om Om KX) W
      have hu:=Bw (W:=fun i=>W (g i)) (j:=j) (v:=W (g n)) (n:=n) hjn;have hc:sm (fun i=>W (if i=j then g n else g i)) n=sm (fun i=>if i=j then W (g n) else W (g i)) n:=bx fun i _=>by split<;>rfl
      grind [sm]
    · have hg':∀i,i<n→g i<n:=fun i jz=>by
        grind
      have ih:=Bx (n:=n) (g:=g) hg' (fun a b ha hb=>hi a b Om Om);have hvn:g n=n:=by
        apply Classical.byContradiction;intro v9;have h1:=ih fun x=>if x=g n then 1 else 0
        rw[xK (show g n<n by omega)] at h1;obtain⟨i,jz,hw⟩:=JC (n:=n) (W:=fun i=>if g i=g n then 1 else 0) (by rw[h1];omega);grind
      grind [sm]
theorem By {n:Nat} {P Q:Nat→Nat} {s:Nat→Nat} (hs:∀x,x<n→∃i,i<n∧s i=x) (hPQ:∀i,i<n→P i=Q (s i)):sm Q n=sm P n:=by
  have hc:∀x,∃i,x<n→i<n∧s i=x:=fun x=>by
    by_cases hx:x<n
    · grind
    · exact⟨0,fun h=>(hx h).elim⟩
  let g:Nat→Nat:=fun x=>Classical.choose (hc x)
  have hgs:∀x,x<n→g x<n∧s (g x)=x:=fun x hx=>Classical.choose_spec (hc x) hx
  rw[←Bx (n:=n) (g:=g) (fun i hi=>(hgs i hi).1) (fun a b ha hb KX=>by rw[←(hgs a ha).2, ←(hgs b hb).2,KX]) P];grind [bx]
def rP (F:Nat→Int→Nat) (NR:List Int) (i:Nat):Nat:=sm (fun j=>F j (NR.getD j 0)) i
section
variable {F:Nat→Int→Nat} {NR:List Int} {i n:Nat} {v:Int}
theorem dG {xs:List Int} {i j:Nat} {v:Int} (h:i<xs.length):(xs.set i v).getD j 0=if i=j then v else xs.getD j 0:=by
  grind
theorem WB (h:∀j,j<i→j≠n) (hn:n<NR.length):rP F (NR.set n v) i=rP F NR i:=bx fun j hj=>by rw[dG hn,if_neg (fun e=>h j hj e.symm)]
theorem ek (hi:i<NR.length):rP F (NR.set i v) (i+1)=rP F NR i+F i v:=by
  show rP F (NR.set i v) i+F i ((NR.set i v).getD i 0)=_;grind [WB,dG]
theorem mC:rP F NR (i+1)=rP F NR i+F i (NR.getD i 0):=rfl
theorem Bz (hi:i<n) (hl:i<NR.length):rP F (NR.set i v) n+F i (NR.getD i 0)=rP F NR n+F i v:=by
  have h:=Bw (W:=fun j=>F j (NR.getD j 0)) (v:=F i v) hi;grind [rP,bx,dG]
end
def fA:Nat→Int→Nat:=fun _ z=>z.natAbs
structure On (CN:List Nat) (NR:List Int) (i:Nat):Prop where
  ge:∀j,j<i→ -1≤NR.getD j 0
  z:∀j,j<i→(NR.getD j 0=0↔CN.getD j 0=0)
theorem On.zero (CN:List Nat) (NR:List Int):On CN NR 0:=⟨fun j h=>Om,fun j h=>Om⟩
theorem On.step {CN:List Nat} {NR:List Int} {i:Nat} {v:Int} (h:On CN NR i) (hi:i<NR.length) (h1: -1≤v) (h2:v=0↔CN.getD i 0=0):On CN (NR.set i v) (i+1):=by
  refine⟨fun j hj=>?_,fun j hj=>?_⟩
  · rw[dG hi];split
    · exact h1
    · exact h.ge j Om
  · rw[dG hi];split
    · grind
    · exact h.z j Om
theorem On.put {CN:List Nat} {NR:List Int} {i n:Nat} {v:Int} (h:On CN NR n) (hi:i<NR.length) (h1:1≤v) (h2:NR.getD i 0≠0):On CN (NR.set i v) n:=by
  refine⟨fun j hj=>?_,fun j hj=>?_⟩
  · rw[dG hi];split
    · omega
    · exact h.ge j Om
  · rw[dG hi];split
    · rename_i e;subst e;have:=h.z i hj;omega
    · exact h.z j Om
def u7 (NR:List Int) (i lp lg:Nat):Prop:=(lp=0∧∀j,j<i→NR.getD j 0≤0)∨(1≤lp∧lg<i∧NR.getD lg 0=lp)
theorem u7.zero (NR:List Int) (lg:Nat):u7 NR 0 0 lg:=.inl ⟨rfl,fun j h=>Om⟩
theorem u7.low {NR:List Int} {i lp lg:Nat} {v:Int} (h:u7 NR i lp lg) (hi:i<NR.length) (hv:v≤0):u7 (NR.set i v) (i+1) lp lg:=by
  rcases h with ⟨h1,h2⟩|⟨h1,h2,h3⟩
  · refine .inl ⟨h1,fun j hj=>?_⟩;grind [dG]
  · exact .inr ⟨h1,Om,by rw[dG hi,if_neg Om];exact h3⟩
theorem u7.new {NR:List Int} {i v:Nat} (hi:i<NR.length) (hv:1≤v):u7 (NR.set i (v:Int)) (i+1) v i:=.inr ⟨hv,Om,by rw[dG hi,if_pos rfl]⟩
theorem u7.old {NR:List Int} {i lp lg v:Nat} (h:u7 NR i lp lg) (hi:i<NR.length) (h1:1≤v) (hv:v≤lp):u7 (NR.set i (v:Int)) (i+1) lp lg:=by
  rcases h with ⟨h1,h2⟩|⟨h1,h2,h3⟩
  · omega
  · exact .inr ⟨h1,Om,by rw[dG hi,if_neg Om];exact h3⟩
structure vJ (L:Nat) (CN:List Nat) (NR:List Int) (n:Nat):Prop where
  I:On CN NR n
  sum:rP fA NR n=2^L
theorem Ak {W:Nat→Nat} {j:Nat}:∀{n:Nat},j<n→sm W n≤W j→∀i,i<n→i≠j→W i=0
  |0,h,_=>by omega
  |n+1,h,hs=>fun i hi DN=>by
    simp only[sm] at hs;by_cases e:j=n
    · subst e;have hz:sm W j=0:=Om;have h1:i<j:=Om;apply Classical.byContradiction;intro v9;have hx:∀m,i<m→W i≤sm W m:=fun m=>by
        induction m with
        |zero=>intro h;omega
        |succ m ih=>
          grind [sm]
      grind
    · have hj:j<n:=Om;have hx:∀m,j<m→W j≤sm W m:=fun m=>by
        induction m with
        |zero=>intro h;omega
        |succ m ih=>
          grind [sm]
      have hle:=hx n hj;by_cases e3:i=n
      · grind
      · exact Ak hj Om i Om DN
theorem JD:∀(cs:List Int),(a4 cs).sum=sm (fun j=>(cs.getD j 0).natAbs) cs.length
  |[]=>rfl
  |n::cs=>by
    rw[a4,List.map_cons,List.sum_cons,List.length_cons,j7];simp only[List.getD_cons_zero,List.getD_cons_succ];rw[←JD cs];rfl
theorem fJ {NR:List Int} {n i:Nat} (h:i<n):(NR.take n).getD i 0=NR.getD i 0:=by simp[List.getD_eq_getElem?_getD,List.getElem?_take,h]
theorem vJ.counts {L:Nat} {CN:List Nat} {NR:List Int} {n:Nat} (h:vJ L CN NR n) (hL:L=5∨L=6) (hn:n≤13) (hl:n≤NR.length) {S:Nat} (hS:sm (fun j=>CN.getD j 0) n=S) (hm:∀j,j<n→CN.getD j 0<S):bu L (NR.take n):=by
  have hlen:(NR.take n).length=n:=by rw[List.length_take];omega
  have ajt:∀c ∈ NR.take n,∃j,j<n∧c=NR.getD j 0:=fun c hc=>by
    obtain⟨i,hi,rfl⟩:=List.getElem_of_mem hc;rw[hlen] at hi;exact⟨i,hi,by simp[List.getD_eq_getElem?_getD,show i<NR.length by omega]⟩
  refine⟨hL,?_,Om,fun c hc=>?_,fun c hc=>?_⟩
  · rw[JD,hlen, ←h.sum];exact bx fun j hj=>by rw[fJ hj];rfl
  · obtain⟨j,hj,rfl⟩:=ajt c hc;exact h.I.ge j hj
  · obtain⟨j,hj,rfl⟩:=ajt c hc;apply Classical.byContradiction;intro wC;have e:((2:Int)^L)=((2^L:Nat):Int):=Oi;rw[e] at wC;have hz:=Ak (W:=fun j=>fA j (NR.getD j 0)) hj (by have:=h.sum;unfold rP at this;rw[this];show 2^L≤(NR.getD j 0).natAbs;omega);have CG:∀i,i<n→i≠j→CN.getD i 0=0:=fun i hi DN=>(h.I.z i hi).1 (by have:=hz i hi DN;simpa [fA] using this)
    have:sm (fun i=>CN.getD i 0) n=CN.getD j 0:=by
      have e1:=Bw (W:=fun i=>CN.getD i 0) (v:=0) hj;have e2:sm (fun i=>if i=j then 0 else CN.getD i 0) n=0:=by
        have:sm (fun i=>if i=j then 0 else CN.getD i 0) n=sm (fun _=>0) n:=bx fun i hi=>by
          grind
        rw[this,fI,Nat.mul_zero]
      omega
    grind
def y6 (CN:List Nat):Nat→Int→Nat:=fun j z=>if z= -2 then CN.getD j 0 else 0
def L7:Nat→Int→Nat:=fun _ z=>if z= -2 then 0 else z.natAbs
structure Gn (CN:List Nat) (NR:List Int) (i:Nat):Prop where
  cls:∀j,j<i→(CN.getD j 0=0∧NR.getD j 0=0)∨(CN.getD j 0≠0∧(NR.getD j 0= -1∨NR.getD j 0=1∨NR.getD j 0= -2))
theorem Gn.zero (CN:List Nat) (NR:List Int):Gn CN NR 0:=⟨fun j h=>Om⟩
theorem Gn.step {CN:List Nat} {NR:List Int} {i:Nat} {v:Int} (h:Gn CN NR i) (hi:i<NR.length) (hv:(CN.getD i 0=0∧v=0)∨(CN.getD i 0≠0∧(v= -1∨v=1∨v= -2))):Gn CN (NR.set i v) (i+1):=⟨fun j hj=>by
  rw[dG hi];split
  · grind
  · exact h.cls j Om⟩
theorem Gn.put {CN:List Nat} {NR:List Int} {i n:Nat} (h:Gn CN NR n) (hi:i<NR.length) (hn:i<n) (hv:NR.getD i 0= -2):Gn CN (NR.set i 1) n:=⟨fun j hj=>by
  rw[dG hi];split
  · rename_i e;subst e;rcases h.cls i hn with ⟨_,h2⟩|⟨h1,_⟩
    · omega
    · omega
  · exact h.cls j hj⟩
theorem Gn.aju {CN:List Nat} {NR:List Int} {n:Nat} (h:Gn CN NR n):rP L7 NR n≤n:=by
  have h1:rP L7 NR n≤sm (fun _=>1) n:=Jx fun j hj=>by
    unfold L7;split
    · omega
    · rename_i h9;rcases h.cls j hj with ⟨_,h2⟩|⟨_,h2|h2|h2⟩
      · rw[h2];simp
      · rw[h2];simp
      · rw[h2];simp
      · omega
  simp_all [fI]
theorem WD {S d A lo L:Nat} (hL:L=5∨L=6) (hS:0<S) (hd:d≤13) (zl:lo=3*S/2^(L+1)) (hA:A≤d*lo):A<S:=by
  have h1:d*lo≤13*lo:=Nat.mul_le_mul_right _ hd;grind
theorem Oo {T T0 d d0 lo L:Nat} (hL:L=5∨L=6) (hT:0<T0) (hd:d≤13) (h0:d0≤d) (zl:lo=T0*3/((2^L-d0)*2)) (hA:T0≤T+(d-d0)*lo):0<T:=by
  have hZ:32≤2^L:=by rcases hL with rfl|rfl<;>decide
  have hp:0<(2^L-d0)*2:=Om;have h2:lo*((2^L-d0)*2)≤T0*3:=by rw[zl];exact Nat.div_mul_le_self _ _
  apply Classical.byContradiction;intro hn;have Ot:T0≤(d-d0)*lo:=Om;have h3:(d-d0)*lo≤(13-d0)*lo:=Nat.mul_le_mul_right _ Om
  -- T0 * (2 (32 - d0)) ≤ (13 - d0) * lo * 2 (32 - d0) ≤ (13 - d0) * 3 * T0
  have h4:T0*((2^L-d0)*2)≤(13-d0)*(T0*3):=by
    calc T0*((2^L-d0)*2)≤((13-d0)*lo)*((2^L-d0)*2):=Nat.mul_le_mul_right _ Om
      _=(13-d0)*(lo*((2^L-d0)*2)):=Nat.mul_assoc _ _ _
      _≤(13-d0)*(T0*3):=Nat.mul_le_mul_left _ h2
  have h5:T0*((2^L-d0)*2)≤T0*((13-d0)*3):=by
    grind
  have h6:=Nat.le_of_mul_le_mul_left h5 hT;omega
structure Gp (CN:List Nat) (N0 NR:List Int) (n i:Nat) (v sJ rs:Nat) (tmp:Nat):Prop where
  rest:∀j,i≤j→NR.getD j 0=N0.getD j 0
  ge:∀j,j<i→ -1≤NR.getD j 0
  z:∀j,j<i→(NR.getD j 0=0↔CN.getD j 0=0)
  at_:tmp=sJ+rP (y6 CN) N0 i*rs
  sum:rP fA NR i=rP L7 N0 i+tmp/2^v
theorem Gp.zero {CN:List Nat} {NR:List Int} {n v sJ rs:Nat} (hm:sJ<2^v):Gp CN NR NR n 0 v sJ rs sJ:=⟨fun _ _=>rfl,fun j h=>Om,fun j h=>Om,by simp[rP,sm],by rw[Nat.div_eq_of_lt hm];rfl⟩
theorem Gp.same {CN:List Nat} {N0 NR:List Int} {n i v sJ rs tmp:Nat} (h:Gp CN N0 NR n i v sJ rs tmp) (hJ:Gn CN N0 n) (hi:i<n) (v9:NR.getD i 0≠ -2):Gp CN N0 NR n (i+1) v sJ rs tmp:=by
  have e:=h.rest i (Nat.le_refl _);have hc:=hJ.cls i hi;rw[←e] at hc;refine⟨fun j hj=>h.rest j Om,fun j hj=>?_,fun j hj=>?_,?_,?_⟩
  · by_cases ej:j=i
    · grind
    · exact h.ge j Om
  · by_cases ej:j=i
    · grind
    · exact h.z j Om
  · rw[mC, ←e,h.at_];simp only[y6,if_neg v9,Nat.add_zero]
  · rw[mC,mC,h.sum, ←e];simp only[fA,L7,if_neg v9];omega
theorem Gp.next {CN:List Nat} {N0 NR:List Int} {n i v sJ rs tmp w:Nat} (h:Gp CN N0 NR n i v sJ rs tmp) (hJ:Gn CN N0 n) (hi:i<n) (hl:i<NR.length) (he:NR.getD i 0= -2) (hw:w=(tmp+CN.getD i 0*rs)/2^v-tmp/2^v) (h1:1≤w):Gp CN N0 (NR.set i (w:Int)) n (i+1) v sJ rs (tmp+CN.getD i 0*rs):=by
  have e:=h.rest i (Nat.le_refl _);have hc:=hJ.cls i hi;rw[←e] at hc;refine⟨fun j hj=>?_,fun j hj=>?_,fun j hj=>?_,?_,?_⟩
  · rw[dG hl,if_neg Om];exact h.rest j Om
  · rw[dG hl];split
    · omega
    · exact h.ge j Om
  · rw[dG hl];split
    · grind
    · exact h.z j Om
  · rw[mC, ←e,h.at_];simp only[y6,if_pos he];rw[Nat.add_mul];omega
  · rw[ek hl,mC,h.sum, ←e];simp only[fA,L7,if_pos he,Int.natAbs_natCast];omega
theorem Gp.done {CN:List Nat} {N0 NR:List Int} {n L tmp d:Nat} (hL:L=5∨L=6) {v sJ rs iQ:Nat} (h:Gp CN N0 NR n n v sJ rs tmp) (hv:v=62-L) (KY:sJ=2^(v-1)-1) (ht:rP (y6 CN) N0 n=iQ) (UT:1≤iQ) (ht1:iQ≤65536) (hd:rP L7 N0 n=d) (Y9:d≤2^L) (Ol:rs=(2^v*(2^L-d)+sJ)/iQ):vJ L CN NR n:=by
  refine⟨⟨h.ge,h.z⟩,?_⟩;have hp:65536≤2^(v-1):=by
    grind
  have hs:=Gi (v:=v) (D:=2^L-d) (t:=iQ) UT (by rcases hL with rfl|rfl<;>omega) Om;rw[h.sum,hd,h.at_,ht,Ol,KY,hs];omega
section
variable {α:Type} {f:Nat→α} {L size:Nat} {cs:List Int} {s e k p:Nat} {G G':Nat→α}
theorem xL (hC:bu L cs) (hz:size=2^L) (h:eG size (bl cs).length (fun i=>f ((mA cs).getD i 0)) G 0 (kJ cs s)) (zl:cs.getD s 0= -1) (he:e+kJ cs s+1=size) (e1:G' e=f s) (o:∀u,u≠e→G' u=G u):eG size (bl cs).length (fun i=>f ((mA cs).getD i 0)) G' 0 (kJ cs (s+1)):=by
  subst hz;have hs:=hC.sz;have ha:=hC.all.1;have hl:=Wz hC zl;have h9:kJ cs (s+1)=kJ cs s+1:=by rw[fg,zl];rfl
  rw[h9];refine h.low hs hl ?_ ?_
  · grind [kJ,N']
  · grind
theorem tE (h:eG size (bl cs).length (fun i=>f ((mA cs).getD i 0)) G 0 (kJ cs s)) (zl:0≤cs.getD s 0):eG size (bl cs).length (fun i=>f ((mA cs).getD i 0)) G 0 (kJ cs (s+1)):=by
  grind [kJ,fg]
theorem WE (hC:bu L cs) (hz:size=2^L) (hk:k<(cs.getD s 0).toNat):dO cs s+k<size-(bl cs).length:=by
  have ha:=hC.all.1;have:=DM (cs:=cs) (s:=s+1);grind [gF]
theorem Al (hC:bu L cs) (hz:size=2^L) (h:eG size (bl cs).length (fun i=>f ((mA cs).getD i 0)) G (dO cs s+k) (bl cs).length) (hk:k<(cs.getD s 0).toNat) (hp:p=wk size (bl cs).length (dO cs s+k)) (e1:G' p=f s) (o:∀u,u≠p→G' u=G u):eG size (bl cs).length (fun i=>f ((mA cs).getD i 0)) G' (dO cs s+(k+1)) (bl cs).length:=by
  have eU:=WE hC hz hk;subst hz;have hs:=hC.sz;rw[Wx hs eU] at hp;exact h.flat hs eU hp (by rw[e1,KT hk]) o
theorem Am (hC:bu L cs) (hz:size=2^L) (h:eG size (bl cs).length (fun i=>f ((mA cs).getD i 0)) G (dO cs s) (bl cs).length) (hs:cs.length≤s) {u:Nat} (hu:u<size):G u=f ((cV L cs).getD u 0):=by
  subst hz;rw[Aj hs,hC.all.1] at h;rw[h.done hC.sz hu,Gh hu]
theorem DQ (hC:bu L cs) (hz:size=2^L):0=wk size (bl cs).length (dO cs 0):=by subst hz;exact(N6 hC.sz).symm
theorem OA (hC:bu L cs) (hz:size=2^L) (hs:cs.length≤s):wk size (bl cs).length (dO cs s)=0:=by subst hz;rw[Aj hs,hC.all.1];exact N7 hC.sz
theorem OB (hC:bu L cs) (hz:size=2^L) (k:Nat):wk size (bl cs).length k+(bl cs).length<size:=by subst hz;exact abZ hC.sz k
theorem OC (hC:bu L cs) (hz:size=2^L) (k:Nat):goM size (bl cs).length size ((wk size (bl cs).length k+fG size)%size)=wk size (bl cs).length (k+1):=by subst hz;exact N9 hC.sz k
theorem JE (hC:bu L cs) (hz:size=2^L) {w t:Nat} (h:goM size (bl cs).length size w=t) (hw:w+(bl cs).length<size):w=t:=by subst hz;rw[NS hC.sz hw] at h;exact h
theorem wJ (hC:bu L cs) (hz:size=2^L) {w t:Nat} (h:goM size (bl cs).length size w=t) (hw:w<size) (hn:¬w+(bl cs).length<size):goM size (bl cs).length size ((w+fG size)%size)=t∧stM size (bl cs).length size ((w+fG size)%size)<stM size (bl cs).length size w:=by
  subst hz;obtain⟨h1,h2⟩:=NT hC.sz hw hn;omega
theorem JF (hC:bu L cs):(bl cs).length≤13:=by have:=hC.sz.2;omega
end
theorem JG:∀(ws:List Nat) (i:Nat),dW ws 15→(nib ws).getD i 0/16=ws.getD (2*i) 0∧(nib ws).getD i 0%16=ws.getD (2*i+1) 0∧(nib ws).getD i 0<256
  |[],i,_=>by simp[nib]
  |[a],0,h=>by
    have ha:=h a List.mem_cons_self;grind [nib]
  |[a],i+1,h=>by simp[nib,Nat.mul_add,List.getD_eq_getElem?_getD]
  |a::b::r,0,h=>by
    have ha:=h a List.mem_cons_self;have hb:=h b (List.mem_cons_of_mem _ List.mem_cons_self);grind [nib]
  |a::b::r,i+1,h=>by
    have:=JG r i (fun x hx=>h x (List.mem_cons_of_mem _ (List.mem_cons_of_mem _ hx)));grind [nib]
theorem HW.JH {ls:List Nat} {L last:Nat} (h:HW ls L last) (hw:gE ls):1≤last:=Classical.byContradiction fun hn=>by
  have e:last=0:=Om;obtain⟨h1,h2,h3⟩:=o8 h hw;subst e;have h4:cellsW (bI ls L 0)=0:=rfl;have h5:(2:Nat)^(L-ls.getD 0 0)<2^L:=Nat.pow_lt_pow_right Om Om;omega
theorem ajv {D D8:List Nat} {a i e:Nat} (h:D8=cK D a (List.replicate i e)) (hl:a+i+4≤D.length):(((D8.set (a+i) e).set (a+i+1) e).set (a+i+2) e).set (a+i+3) e=cK D a (List.replicate (i+4) e):=by
  grind [DJ]
theorem ajw {D D8:List Nat} {a i e:Nat} (h:D8=cK D a (List.replicate i e)) (hl:a+i<D.length):D8.set (a+i) e=cK D a (List.replicate (i+1) e):=by
  grind [DJ]
theorem WG {a n:Nat} (h:a<256):a|||256*n=a+256*n:=by
  have:=eH (a:=n) (b:=a) (n:=8) h;grind
theorem pd {x y:Nat} (h:x<16) (k:y<16):x|||y<16:=Nat.or_lt_two_pow (n:=4) h k
theorem OD {w:Nat} (h:1≤w):2^w/2^1=2^(w-1):=by
  obtain⟨m,rfl⟩:∃m,w=m+1:=⟨w-1,Om⟩;grind
theorem OE {m:Nat} (h:4≤2^m):2^m%4=0:=by
  have h2:2≤m:=Classical.byContradiction fun hn=>by
    have:=Nat.pow_le_pow_right (show 0<2 by omega) (show m≤1 by omega);omega
  obtain⟨k,rfl⟩:∃k,m=k+2:=⟨m-2,Om⟩;grind
theorem KZ {W ws:List Nat} {n j:Nat} (h:W.take n=ws) (hj:j<n):W.getD j 0=ws.getD j 0:=by
  grind
theorem OF {W ws aw:List Nat} {n x j:Nat} (h:∀j,j<n→W.getD j 0=ws.getD j 0) (hw:ws.length=n) (hl:n<W.length) (e:aw=ws++[x]) (hj:j<n+1):(W.set n x).getD j 0=aw.getD j 0:=by
  grind
structure Gq (ws aw:List Nat) (L last nl:Nat):Prop where
  wl:ws.length=last
  wL:∀w ∈ ws,w≤L
  al:aw.length=last+1
  aL:∀w ∈ aw,w≤L
  ea:aw=ws++[L-nl+1]
  L1:1≤L∧L≤11
  nl1:1≤nl∧nl≤L
  JH:1≤last∧last≤255
  sum:cellsW ws+2^(L-nl)=2^L
  ajx:cellsW aw=2^L
  log:aq (cellsW ws)=L∧2^(L-1)≤cellsW ws
  ev:2≤aw.count 1∧aw.count 1%2=0
theorem Gq.of {ls ws aw:List Nat} {L last nl:Nat} (h:HW ls L last) (hw:gE ls) (he:gS ls) (h1:ws=bI ls L last) (h2:aw=kI ls L last) (h3:nl=ls.getD last 0):Gq ws aw L last nl:=by
  subst h1;subst h2;subst h3;have hl:=h.lt;have Dr:=hw.1;obtain⟨s1,s2,s3⟩:=o8 h hw;refine⟨jR Om,tj,vF h,Bo,?_,⟨h.L1,h.L11 hw⟩,⟨s2,s3⟩,⟨h.JH hw,Om⟩,s1,o7 h hw (h.L11 hw),DH h hw,Bp h (h.L11 hw) he⟩;grind [Ac,uV]
theorem dW.of {ws:List Nat} {L:Nat} (h:∀w ∈ ws,w≤L) (i:Nat):ws.getD i 0≤L:=dW.at_ (b:=L) h i
theorem nw {ws:List Nat} {L v:Nat} (h:∀w ∈ ws,w≤L) (hv:L<v):ws.count v=0:=List.count_eq_zero.2 fun hm=>by have:=h v hm;omega
theorem DR {cs:List Int} (h:bu 5 cs) {u:Nat} (hu:u<32):((eB 5 cs).getD u (0,0,0)).1<cs.length∧((eB 5 cs).getD u (0,0,0)).2.1≤5∧((eB 5 cs).getD u (0,0,0)).2.2+2^((eB 5 cs).getD u (0,0,0)).2.1≤32:=by
  obtain⟨s,k,e,_,h3,_,h1,h2,h4,h5,h6,h7⟩:=nr h (u:=u) hu;rw[e];exact⟨h3,h5,h7⟩
theorem kV.tF {T:List Cell} {text A:List Nat} (h:kV 5 T text A) (i:Nat):A.getD i 0<32:=by
  rcases Nat.lt_or_ge i A.length with hi|hi
  · exact h.lt (A.getD i 0) (by simp[List.getD_eq_getElem?_getD,hi])
  · grind
def ku (ws ys:List Nat):Prop:=(ws.length≤128∧ys=[127+ws.length]++nib ws)∨(∃cs b,fz 5 cs ws b∧b.length≤127∧ys=[b.length]++b)
theorem cx.ajy {cs:List Int} {E:List Nat} (h:cx 32 cs E):5≤E.length:=by
  obtain⟨n,t,b,hE,_⟩:=h.inv Om;have:=kW (di:=32+1) (v:=(n+1).toNat);have h7:aq (32+1)=6:=Od;grind
theorem iB.two {T:List Cell} {ws ys:List Nat} (h:iB 5 T ws ys):2≤ys.length:=by
  obtain⟨A,h1,_,h2,h3,h4⟩:=h.ex;omega
theorem fz.ab5 {cs:List Int} {ws b:List Nat} (h:fz 5 cs ws b):4≤b.length:=by
  obtain⟨E,hD,hL,h1,h2,hp⟩:=h.read;have a:=hp.two;grind [cx.ajy]
theorem ku.at_ {ws ys xs:List Nat} {ki li x0:Nat} (h:ku ws ys) (h1:1≤ws.length) (U3:ys.length=li) (DS:∀i,i<li→xs.getD (ki+i) 0=ys.getD i 0) (Jt:xs.getD ki 0=x0):
    2≤li∧((ws.length≤128∧x0=127+ws.length∧li=1+(ws.length+1)/2∧∀i,i<(ws.length+1)/2→xs.getD (ki+1+i) 0=(nib ws).getD i 0)∨
      (∃cs b,fz 5 cs ws b∧b.length=x0∧x0≤127∧li=1+x0∧(∀i,i<x0→xs.getD (ki+1+i) 0=b.getD i 0)∧ys=[b.length]++b)):=by
  rcases h with ⟨h2,h3⟩|⟨cs,b,h4,h5,h6⟩
  · have hn:(nib ws).length=(ws.length+1)/2:=rJ ws;have WH:li=1+(ws.length+1)/2:=by rw[←U3,h3,List.length_append,hn];rfl
    refine⟨Om,.inl ⟨h2,?_,WH,fun i hi=>?_⟩⟩
    · have:=DS 0 Om;grind
    · rw[Nat.add_assoc,DS _ Om,h3,rN Oi,show 1+i-[127+ws.length].length=i by simp]
  · have L5:=h4.ab5;have WH:li=1+b.length:=by rw[←U3,h6,List.length_append];rfl
    have hx:x0=b.length:=by
      have:=DS 0 Om;grind
    refine⟨Om,.inr ⟨cs,b,h4,hx.symm,Om,Om,fun i hi=>?_,h6⟩⟩;rw[Nat.add_assoc,DS _ Om,h6,rN Oi,show 1+i-[b.length].length=i by simp]
def khL (m:Nat):List Nat→Nat
  |[]=>0
  |x::xs=>(if m≤x then 2^(11-x) else 0)+khL m xs
def klL (m:Nat):List Nat→Nat
  |[]=>0
  |x::xs=>(if x=0 then 0 else if x<m then 2^(11-x) else 0)+klL m xs
theorem xM {m:Nat} (hm:1≤m):∀ls:List Nat,gf ls=khL m ls+klL m ls
  |[]=>rfl
  |x::xs=>by
    simp only[gf,khL,klL,xM hm xs];grind
theorem xN (m:Nat):∀ls:List Nat,khL m ls=khL (m+1) ls+ls.count m*2^(11-m)
  |[]=>by simp[khL]
  |x::xs=>by
    simp only[khL,xN m xs,List.count_cons];grind
theorem BA {m:Nat} (hm:m≤12):∀ls:List Nat,2^(12-m)∣klL m ls
  |[]=>by simp[klL]
  |x::xs=>by
    simp only[klL];refine Nat.dvd_add ?_ (BA hm xs);split
    · simp_all
    · split
      · exact Nat.pow_dvd_pow 2 Om
      · simp_all
theorem WI {ls:List Nat} (h:dW ls 11):khL 12 ls=0:=by
  induction ls with
  |nil=>rfl
  |cons x xs ih=>
    have:=h x List.mem_cons_self;simp only[khL];rw[if_neg Om,ih fun y hy=>h y (List.mem_cons_of_mem _ hy)]
theorem gE.even {ls:List Nat} (h:gE ls):gS ls:=by
  obtain⟨h1,h2,h3,h4⟩:=h;have key:∀d,d≤10→(CF ls (11-d)+ls.count (11-d))*2^d=khL (11-d) ls∧(CF ls (11-d)+ls.count (11-d))%2=0:=by
    intro d;have fin:d≤10→(CF ls (11-d)+ls.count (11-d))*2^d=khL (11-d) ls→(CF ls (11-d)+ls.count (11-d))%2=0:=fun hd e=>by
      have k1:=xM (m:=11-d) Om ls;have k2:=BA (m:=11-d) Om ls;rw[show 12-(11-d)=d+1 by omega] at k2;have k3:2^(d+1)∣gf ls:=by rw[h3];exact Nat.pow_dvd_pow 2 (show d+1≤11 by omega)
      rw[k1] at k3;have k4:=(Nat.dvd_add_left k2).1 k3;rw[←e,Nat.pow_succ,Nat.mul_comm (2^d) 2] at k4;have k5:=Nat.dvd_of_mul_dvd_mul_right (Nat.two_pow_pos d) k4;omega
    induction d with
    |zero=>
      grind [CF,khL,xN,WI,wH]
    |succ d ih=>
      intro hd;have ajz:d≤10→(CF ls (11-d)+ls.count (11-d))*2^d=khL (11-d) ls→(CF ls (11-d)+ls.count (11-d))%2=0:=fun hd e=>by
        have k1:=xM (m:=11-d) Om ls;have k2:=BA (m:=11-d) Om ls;rw[show 12-(11-d)=d+1 by omega] at k2;have k3:2^(d+1)∣gf ls:=by rw[h3];exact Nat.pow_dvd_pow 2 (show d+1≤11 by omega)
        rw[k1] at k3;have k4:=(Nat.dvd_add_left k2).1 k3;rw[←e,Nat.pow_succ,Nat.mul_comm (2^d) 2] at k4;have k5:=Nat.dvd_of_mul_dvd_mul_right (Nat.two_pow_pos d) k4;omega
      obtain⟨i1,i2⟩:=ih ajz Om;have np:=xr ls (m:=11-d) Om Om;rw[show 11-d-1=11-(d+1) by omega] at np;have st:=xN (11-(d+1)) ls;rw[show 11-(d+1)+1=11-d by omega,show 11-(11-(d+1))=d+1 by omega] at st;have e2:CF ls (11-(d+1))*2^(d+1)=khL (11-d) ls:=by
        rw[←i1,np,Nat.pow_succ,Nat.mul_comm (2^d) 2, ←Nat.mul_assoc];congr 1;omega
      grind
  intro m m1 m2;have:=(key (11-m) Om).2;grind
def BR.tG (s:BR) (n:Nat):Nat:=if n=0 then 0 else s.mq n
theorem BR.OG {s:BR} (h:s.rd<256):s.fm 0=s:=by
  unfold BR.fm;rw[Nat.add_zero,Nat.mod_eq_of_lt h]
structure BB (T:List Cell):Prop where
  len:T.length=32
  cell:∀u,u<32→(T.getD u (0,0,0)).2.1≤5∧(T.getD u (0,0,0)).2.2+2^(T.getD u (0,0,0)).2.1≤32∧(T.getD u (0,0,0)).1<256
theorem BB.of {cs:List Int} (hC:bu 5 cs):BB (eB 5 cs):=by
  refine⟨qZ,fun u hu=>?_⟩;obtain⟨h1,h2,h3⟩:=DR hC hu;have:=hC.len;omega
def DT (T:List Cell):Prop:=∀u,u<32→1≤(T.getD u (0,0,0)).2.1
theorem DT.of {cs:List Int} (hC:bu 5 cs) (h:∀i,(a4 cs).getD i 0<16):DT (eB 5 cs):=fun u hu=>by
  obtain⟨s,k,e,hs,hl,hk,h1,h2,h3,h4,h5,h6⟩:=nr hC (u:=u) hu;have hn:=h s;have:=NH (log:=5) h1 h3 Om;rw[e];exact this
section
variable {xs text A:List Nat} {k len i:Nat} {T:List Cell} {s:BR}
theorem kF.vK (h:kF xs k len T A i s) (hT:kV 5 T text A) (hp:0<8*s.off+(64-s.rd)):i+2<text.length:=by
  refine Classical.byContradiction fun hn=>?_
  have h1:=(rI (T:=T) (at_:=A) (i:=i) (by rw[hT.len];omega)).1;have h2:=h.pos.n;omega
theorem kF.ajA (h:kF xs k len T A i s) (hT:kV 5 T text A) (hE:∀i,i<text.length→text.length≤i+2→1≤(T.getD (A.getD i 0) (0,0,0)).2.1) (hi:i<text.length):((64≤s.rd∧s.off=0)∧0<(T.getD (A.getD i 0) (0,0,0)).2.1)↔text.length≤i+2:=by
  have h2:=h.pos.n;have h3:=h.pos.rd;constructor
  · intro ⟨⟨h4,h5⟩,h7⟩;refine Classical.byContradiction fun hn=>?_
    have e:=(td (T:=T) (at_:=A) (i:=i) (by rw[hT.len];omega)).1;omega
  · intro h4;have h1:=(rI (T:=T) (at_:=A) (i:=i) (by rw[hT.len];exact h4)).1;grind
theorem kF.An (h:kF xs k len T A i s) (hT:kV 5 T text A) (hO:BB T) (hb:Bytes xs) (hi:i+2<text.length) (hr:s.rd+5≤64∨s.off=0):
    s.rd+(T.getD (A.getD i 0) (0,0,0)).2.1≤64∧(T.getD (A.getD i 0) (0,0,0)).2.2+s.tG (T.getD (A.getD i 0) (0,0,0)).2.1=A.getD (i+2) 0∧kF xs k len T A (i+1) (s.fm (T.getD (A.getD i 0) (0,0,0)).2.1)∧(s.fm (T.getD (A.getD i 0) (0,0,0)).2.1).rd≤s.rd+5:=by
  have hc:=hO.cell _ (hT.tF i);have kD:=h.pos.rd;by_cases h0:(T.getD (A.getD i 0) (0,0,0)).2.1=0
  · obtain⟨e1,e2⟩:=td (T:=T) (at_:=A) (i:=i) (by rw[hT.len];exact hi);have hs:=hT.step i hi;rw[h0] at e1 hs ⊢;rw[Nat.zero_add] at e1;rw[Nat.pow_zero] at hs;rw[show A.getD (i+2) 0-(T.getD (A.getD i 0) (0,0,0)).2.2=0 by omega,Nat.zero_mul,Nat.zero_add] at e2;have hp:=h.pos;rw[e1,e2] at hp;rw[BR.OG Om];exact⟨Om,by unfold BR.tG;rw[if_pos rfl];omega,⟨hp⟩,Om⟩
  · obtain⟨h1,h2,h3⟩:=h.bits hT hb hi Om Om (hr.imp Om id);exact⟨h1,by unfold BR.tG;rw[if_neg h0];exact h2,h3,by show(s.rd+_)%256≤_;omega⟩
end
theorem kF.ab6 {xs text A:List Nat} {k len:Nat} {T:List Cell} (hT:kV 5 T text A) (hb:Bytes xs) (hl:len=(2*5+fN T A)/8+1) (hv:tailV xs k len=2^(2*5+fN T A)+((A.getD 0 0*2^5+A.getD 1 0)*2^fN T A+fR T A)):
    0<xs.getD (k+(len-1)) 0∧(BR.gd xs k len).rd<64∧(BR.gd xs k len).OK len∧(BR.gd xs k len).mq 5=A.getD 0 0∧((BR.gd xs k len).fm 5).rd<64∧((BR.gd xs k len).fm 5).OK len∧((BR.gd xs k len).fm 5).mq 5=A.getD 1 0∧kF xs k len T A 0 (((BR.gd xs k len).fm 5).fm 5):=by
  have hR:=Ah hT;have h0:=hT.tF 0;have h1:=hT.tF 1;have hf:fR T A<2^fN T A:=by have:=kV.lt_ hT _ 0 rfl;rwa [List.drop_zero] at this
  have hP:gR xs k len (BR.gd xs k len) (2*5+fN T A) ((A.getD 0 0*2^5+A.getD 1 0)*2^fN T A+fR T A)∧0<xs.getD (k+(len-1)) 0∧(BR.gd xs k len).rd+10≤64:=by
    rcases gR.ta hb hl hR hv with ⟨a,b,c⟩|⟨a,b,c⟩
    · grind
    · have:=a.n;grind
  obtain⟨Ao,hx,kD⟩:=hP;generalize BR.gd xs k len=s at*;have pos:0<2^fN T A:=Nat.pow_pos Om;have p6:(2:Nat)^(5+fN T A)=2^5*2^fN T A:=Nat.pow_add _ _ _;generalize hn:fN T A=n at*;generalize A.getD 0 0=a at*;generalize A.getD 1 0=c at*;generalize hr:fR T A=r at*;obtain⟨rK,_⟩:=Ao.bits hb (m:=5) Om Om Om;have A0:=Ao.skip hb (m:=5) Om;have WJ:(s.fm 5).rd=s.rd+5:=by show(s.rd+5)%256=_;omega
  rw[show 2*5+n-5=5+n by omega] at rK A0;have e0:(a*2^5+c)*2^n+r=a*2^(5+n)+(c*2^n+r):=by rw[p6,Nat.add_mul,Nat.mul_assoc];omega
  have eU:c*2^n+r<2^(5+n):=by
    have:(c+1)*2^n≤2^5*2^n:=Nat.mul_le_mul_right _ Om;grind
  have p6':0<2^(5+n):=Nat.pow_pos Om;rw[e0,Nat.add_comm (_*_),Nat.add_mul_div_right _ _ p6',Nat.div_eq_of_lt eU,Nat.zero_add] at rK;rw[e0,Nat.add_comm (_*_),Nat.add_mul_mod_self_right,Nat.mod_eq_of_lt eU] at A0;obtain⟨nU,_⟩:=A0.bits hb (m:=5) Om Om Om;have FL:=A0.skip hb (m:=5) Om;rw[show 5+n-5=n by omega] at nU FL;rw[Nat.add_comm (_*_),Nat.add_mul_div_right _ _ pos,Nat.div_eq_of_lt hf,Nat.zero_add] at nU;rw[Nat.add_comm (_*_),Nat.add_mul_mod_self_right,Nat.mod_eq_of_lt hf] at FL;exact⟨hx,Om,Ao.ok,rK,Om,A0.ok,nU,⟨by rw[List.drop_zero,hn,hr];exact FL⟩⟩
theorem jf (P:List Int):(a4 P).length=P.length:=by simp[a4]
theorem DU {P:List Int} {j:Nat} (h:P.length≤j):(a4 P).getD j 0=0:=by
  grind [jf]
theorem zm {P:List Int} {i:Nat}:(a4 P).getD i 0=(P.getD i 0).natAbs:=iL rfl _ _
theorem ab7 {P:List Int} {i:Nat} {zb:Bool} (h:P.length≤i) (hz:zb=false→∀j,j<i→(a4 P).getD j 0<16):zb=false→∀j,(a4 P).getD j 0<16:=fun h9 j=>by
  grind [DU]
theorem OH (n:Nat):n&&&31=n%32:=Nat.and_two_pow_sub_one_eq_mod n 5
theorem zn (C:List Nat) (u s:Nat):(C.take u).count s≤u:=Nat.le_trans List.count_le_length (by rw[List.length_take];omega)
theorem u9 {xs:List Int} {i:Nat} {v:Int} (h:i<xs.length):(xs.set i v).take (i+1)=xs.take i++[v]:=by
  rw[List.take_succ_eq_append_getElem (by rw[List.length_set];exact h),List.getElem_set_self,List.take_set];congr 1;exact List.set_eq_of_length_le (by rw[List.length_take];omega)
def xO (pz:Bool) (left:Nat) (cr:List Int) (er:List Nat):Prop:=(pz=false∧cx left cr er)∨(pz=true∧0<left∧∃z c t b,er=zerosB z++b∧cr=List.replicate z 0++c::t∧cx left (c::t) b)
theorem xO.next {left:Nat} {n:Int} {t:List Int} {b:List Nat} {l':Nat} (h0:0<left) (h:(n≠0∧cx (left-n.natAbs) t b)∨(n=0∧∃z c t2 b2,b=zerosB z++b2∧t=List.replicate z 0++c::t2∧cx left (c::t2) b2)) (hl:l'=left-n.natAbs):xO (decide (n=((0:Nat):Int))) l' t b:=by
  subst hl;rcases h with ⟨h1,h2⟩|⟨h1,h2⟩
  · exact .inl ⟨decide_eq_false Om,h2⟩
  · subst h1;exact .inr ⟨rfl,by simpa using h0,by simpa using h2⟩
theorem xO.abX {pz:Bool} {left:Nat} {cr:List Int} {er:List Nat} (h:xO pz left cr er) (h0:left=0):er=[]∧cr=[]:=by
  rcases h with ⟨_,h2⟩|⟨_,h2,_⟩
  · exact h2.abX h0
  · omega
theorem bu.two {log:Nat} {cs:List Int} (h:bu log cs):2≤cs.length:=by
  match cs,h with
  |[],h=>have:=h.sum;have h2:=h.size;simp[a4] at this;omega
  |[x],h=>
    have h1:=h.sum;have h2:=h.Gc x.natAbs (by simp[a4]);grind [a4]
  |x::y::t,_=>simp
theorem fz.text {cs:List Int} {ws ys:List Nat} {p:Nat} (WK:iB 5 (eB 5 cs) ws (ys.drop p)) {xs:List Nat} {ki li:Nat} (U3:ys.length=li) (DS:∀i,i<li→xs.getD (ki+i) 0=ys.getD i 0):
    ∃A,kV 5 (eB 5 cs) ws A∧(∀i,i<ws.length→ws.length≤i+2→1≤((eB 5 cs).getD (A.getD i 0) (0,0,0)).2.1)∧li-p=(2*5+fN (eB 5 cs) A)/8+1∧tailV xs (ki+p) (li-p)=2^(2*5+fN (eB 5 cs) A)+((A.getD 0 0*2^5+A.getD 1 0)*2^fN (eB 5 cs) A+fR (eB 5 cs) A):=by
  obtain⟨A,h1,h5,h2,h3,h4⟩:=WK.ex;grind [iJ]
theorem fz.first {cs:List Int} {ws b:List Nat} (h:fz 5 cs ws b):b.getD 0 0%16=0:=by
  have hl:=h.ab5;obtain⟨E,hD,hL,_⟩:=h.read;have h1:=(hL.take h.bytes).1;have h2:=(hL.take h.bytes).2.2;rw[xq h.bytes (m:=b.length) 4 h2,Nat.pow_zero,Nat.div_one] at h1;have h3:=xp h.bytes (j:=0) (n:=b.length) Om;omega
structure mD (P:List Nat) (C nb n V:Nat):Prop where
  by_:Bytes P
  lt:C<2^nb
  small:nb≤63
  len:8*P.length+nb=n
  val:tailV P 0 P.length+C*2^(8*P.length)=V
theorem kK (P:List Nat):∀(Q:List Nat) (k:Nat),k≤Q.length→tailV (P++Q) 0 (P.length+k)=tailV P 0 P.length+tailV Q 0 k*2^(8*P.length)
  |Q,0,_=>by
    grind [tailV,iJ]
  |Q,k+1,h=>by
    have ih:=kK P Q k Om;rw[←Nat.add_assoc];simp only[tailV,ih,Nat.zero_add];have e:(P++Q).getD (P.length+k) 0=Q.getD k 0:=by
      grind
    grind
def bK (C k:Nat):List Nat:=(List.range k).map fun i=>C/2^(8*i)%256
theorem dC (C k:Nat):(bK C k).length=k:=by simp[bK]
theorem Gr {C k i:Nat} (h:i<k):(bK C k).getD i 0=C/2^(8*i)%256:=by simp[bK,List.getD_eq_getElem?_getD,h]
theorem tH (C k:Nat):Bytes (bK C k):=fun x hx=>by
  obtain⟨i,_,rfl⟩:=List.mem_map.1 hx;omega
theorem vL (C k:Nat):bK C (k+1)=bK C k++[C/2^(8*k)%256]:=by simp[bK,List.range_succ]
theorem pe (C k:Nat):∀j,j≤k→tailV (bK C k) 0 j=C%2^(8*j)
  |0,_=>by simp[tailV,Nat.mod_one]
  |j+1,h=>by
    simp only[tailV,Nat.zero_add];rw[pe C k j Om,Gr Om,Nat.mul_add,Nat.pow_add,Nat.mod_mul];grind
section
variable {P:List Nat} {C nb n V:Nat}
theorem mD.begin {P:List Nat} {n:Nat} (h:P=[]) (hn:n=0):mD P 0 0 n 0:=by
  subst h;subst hn;exact⟨(fun x hx=>by cases hx),Od,Od,rfl,rfl⟩
theorem mD.add (h:mD P C nb n V) {x b:Nat} (hx:x<2^b) (hb:nb+b≤63):mD P (C+x*2^nb) (nb+b) (n+b) (V+x*2^n):=by
  refine⟨h.by_,?_,hb,by have:=h.len;omega,?_⟩
  · have h1:=h.lt;have h2:(x+1)*2^nb≤2^b*2^nb:=Nat.mul_le_mul_right _ hx;grind
  · rw[Nat.add_mul, ←Nat.add_assoc,h.val,Nat.mul_assoc, ←Nat.pow_add,show nb+8*P.length=n by have:=h.len;omega]
theorem mD.flush (h:mD P C nb n V) {k:Nat} (hk:8*k≤nb):mD (P++bK C k) (C/2^(8*k)) (nb-8*k) n V:=by
  have hl:(P++bK C k).length=P.length+k:=by rw[List.length_append,dC]
  refine⟨fun x hx=>(List.mem_append.1 hx).elim (h.by_ x) (tH C k x),?_,by have:=h.small;omega,by rw[hl];have:=h.len;omega,?_⟩
  · have h1:=h.lt;rw[Nat.div_lt_iff_lt_mul (Nat.two_pow_pos _), ←Nat.pow_add,show nb-8*k+8*k=nb by omega];exact h1
  · rw[hl,kK P _ k (by rw[dC];exact Nat.le_refl _),pe C k k (Nat.le_refl _), ←h.val,Nat.mul_add,Nat.pow_add,Nat.mul_comm (2^(8*P.length)), ←Nat.mul_assoc,Nat.add_assoc, ←Nat.add_mul];congr 2;have:=Nat.mod_add_div C (2^(8*k));grind
theorem mD.align (h:mD P C nb n V) {k:Nat} (hk:k=(nb+7)/8):Bytes (P++bK C k)∧(P++bK C k).length=(n+7)/8∧tailV (P++bK C k) 0 ((n+7)/8)=V:=by
  have hn:=h.len;have hl:(P++bK C k).length=P.length+k:=by rw[List.length_append,dC]
  have uw:P.length+k=(n+7)/8:=Om;refine⟨fun x hx=>(List.mem_append.1 hx).elim (h.by_ x) (tH C k x),Om,?_⟩;rw[←uw,kK P _ k (by rw[dC];exact Nat.le_refl _),pe C k k (Nat.le_refl _)];have h1:=h.lt;have h2:2^nb≤2^(8*k):=Nat.pow_le_pow_right Om Om;rw[Nat.mod_eq_of_lt Om,h.val]
end
theorem WL (C:Nat):[C%256]=bK C 1:=by simp[bK]
theorem JI (C:Nat):[C%256,C/2^8%256]=bK C 2:=by simp[bK,List.range_succ]
theorem WN (C:Nat):[C%256,C/2^8%256,C/2^16%256]=bK C 3:=by simp[bK,List.range_succ]
theorem JJ (C:Nat):[C%256,C/2^8%256,C/2^16%256,C/2^24%256]=bK C 4:=by simp[bK,List.range_succ]
theorem jT {C x nb:Nat} (h:C<2^nb):C|||x*2^nb=C+x*2^nb:=by rw[eH h,Nat.add_comm]
theorem BC:Array.range 4= #[0,1,2,3]:=by decide
def fP:List Nat:=[0,1,3,7,15,31,63,127,255,511,1023,2047,4095,8191,16383,32767,65535,65535,65535,65535,65535,65535,65535,65535,65535,65535,0,0,0,0,0,0]
theorem OI {v b:Nat} (h:b≤16):v&&&fP.getD b 0=v%2^b:=by
  have e:fP.getD b 0=2^b-1:=by
    have:∀b,b<17→fP.getD b 0=2^b-1:=Od;grind
  simp_all
theorem WO {v b:Nat} (h1:1≤b) (h:b≤16):v*2^(16-b)%65536/2^(16-b)=v%2^b:=by
  have e:65536=2^b*2^(16-b):=by rw[←Nat.pow_add,show b+(16-b)=16 by omega]
  rw[e,Nat.mul_mod_mul_right,Nat.mul_div_cancel _ (Nat.two_pow_pos _)]
theorem JK (b:Nat):fP.getD b 0<65536:=by
  rcases Nat.lt_or_ge b 32 with h|h
  · have:∀b,b<32→fP.getD b 0<65536:=Od;exact this b h
  · simp_all [fP]
theorem mD.ab8 {P:List Nat} {C nb n V:Nat} (h:mD P C nb n V):mD P (C/2^(8*0)) (nb-8*0) n V:=by simpa using h
theorem u' {L n:Nat} (hL:L≤6):ou L n≤393216:=by
  grind [ou,aq]
theorem ny {x b nb:Nat} (h:x<2^b) (hb:nb+b≤63):x*2^nb<9223372036854775808:=by
  have h1:x*2^nb<2^b*2^nb:=Nat.mul_lt_mul_of_pos_right h (Nat.two_pow_pos _);rw[←Nat.pow_add] at h1;have h2:2^(b+nb)≤2^63:=Nat.pow_le_pow_right Om Om;omega
theorem jg {C nb:Nat} (h:C<2^nb) (hb:nb≤63):C<9223372036854775808:=by
  have h2:2^nb≤2^63:=Nat.pow_le_pow_right Om hb;omega
structure iS (L:Nat) (Cc ns S:List Nat) (TT:List (Int × Nat)):Prop where
  laid:iM L Cc ns
  lg:L=5∨L=6
  st:∀s j,j<ns.getD s 0→S.getD (dI ns s+j) 0=2^L+occC Cc s j
  tt:∀s,1≤ns.getD s 0→TT.getD s (0,0)=(((dI ns s:Nat):Int)-((ns.getD s 0:Nat):Int),ou L (ns.getD s 0))
  Gs:TT.length=256
  sl:S.length=2^L
  sum:ns.sum=2^L
def wA (L:Nat) (Cc ns X:List Nat) (N i:Nat):Nat:=(encA L Cc ns (X.take N)).getD i 0
def kj (L:Nat) (Cc ns X:List Nat) (N k V0:Nat) (P:List Nat) (C nb i:Nat):Prop:=
  mD P C nb (8*k+fN (buildD L Cc ns) ((encA L Cc ns (X.take N)).drop i)) (V0+fR (buildD L Cc ns) ((encA L Cc ns (X.take N)).drop i)*2^(8*k))
section
variable {L:Nat} {Cc ns S X:List Nat} {TT:List (Int × Nat)} {N i k V0:Nat}
theorem tI {X:List Nat} {N i:Nat} (h:i<N):(X.take N).getD i 0=X.getD i 0:=by simp[List.getD_eq_getElem?_getD,List.getElem?_take,h]
theorem iS.oB (h:iS L Cc ns S TT) (s:Nat):dI ns s+ns.getD s 0≤2^L:=by
  rw[←h.sum, ←dZ];exact kH
theorem iS.some (h:iS L Cc ns S TT) (hN:N≤X.length) (hs:∀s ∈ X.take N,1≤ns.getD s 0) (hi:i<N):1≤ns.getD (X.getD i 0) 0∧ns.getD (X.getD i 0) 0<2^L:=by
  refine⟨hs _ ?_,h.laid.le _⟩;rw[←tI hi];grind
theorem iS.wlt (h:iS L Cc ns S TT) (hs:∀s ∈ X.take N,1≤ns.getD s 0) (i:Nat):wA L Cc ns X N i<2^L:=h.laid.Bn hs i
theorem iS.first (h:iS L Cc ns S TT) (hN:N≤X.length) (hs:∀s ∈ X.take N,1≤ns.getD s 0) (hi:i<N) (h2:N≤i+2):S.getD (dI ns (X.getD i 0)) 0=wA L Cc ns X N i+2^L:=by
  have hl:(X.take N).length=N:=by rw[List.length_take];omega
  have h1:=(h.some hN hs hi).1;have h3:=h.st (X.getD i 0) 0 Om;grind [wA,uX,tI]
theorem iS.next (h:iS L Cc ns S TT) (hN:N≤X.length) (hs:∀s ∈ X.take N,1≤ns.getD s 0) (hi:i+2<N):
    S.getD (dI ns (X.getD i 0)+((wA L Cc ns X N (i+2)+2^L)/2^bg L (ns.getD (X.getD i 0) 0) (wA L Cc ns X N (i+2)+2^L)-ns.getD (X.getD i 0) 0)) 0=wA L Cc ns X N i+2^L:=by
  have hl:(X.take N).length=N:=by rw[List.length_take];omega
  obtain⟨h1,h2⟩:=h.some hN hs (i:=i) Om;have hw:=h.wlt hs (i+2);obtain⟨e1,e2,e3⟩:=kX h1 (Nat.le_of_lt h2) (c:=wA L Cc ns X N (i+2)+2^L) ⟨Om,by rw[Nat.pow_succ];omega⟩;rw[h.st _ _ Om];grind [ts,tI,DA,wA]
theorem kj.begin (hN:N≤X.length) {P:List Nat} (hP:Bytes P) (hk:P.length=k) (hV:tailV P 0 k=V0) (hi:N≤i+2):kj L Cc ns X N k V0 P 0 0 i:=by
  subst hk;obtain⟨e1,e2⟩:=rI (T:=buildD L Cc ns) (at_:=encA L Cc ns (X.take N)) (i:=i) (by rw[fS,List.length_take];omega);unfold kj;rw[e1,e2];exact⟨hP,Od,Od,Om,(by rw[hV])⟩
theorem kj.step (h:iS L Cc ns S TT) (hN:N≤X.length) (hs:∀s ∈ X.take N,1≤ns.getD s 0) {P:List Nat} {C nb:Nat} (hw:kj L Cc ns X N k V0 P C nb (i+1)) (hi:i+2<N) (hb:nb≤56):
    kj L Cc ns X N k V0 P (C+(wA L Cc ns X N (i+2)+2^L)%2^bg L (ns.getD (X.getD i 0) 0) (wA L Cc ns X N (i+2)+2^L)*2^nb) (nb+bg L (ns.getD (X.getD i 0) 0) (wA L Cc ns X N (i+2)+2^L)) i:=by
  have hl:(X.take N).length=N:=by rw[List.length_take];omega
  obtain⟨h1,h2⟩:=h.some hN hs (i:=i) Om;have L9:=h.wlt hs (i+2);obtain⟨e1,e2,e3⟩:=kX h1 (Nat.le_of_lt h2) (c:=wA L Cc ns X N (i+2)+2^L) ⟨Om,by rw[Nat.pow_succ];omega⟩;obtain⟨b1,b2⟩:=h.laid.bits hs (i:=i) Om;rw[tI (show i<N by omega)] at b1 b2;have hlg:=h.lg;unfold kj at hw ⊢;have ha:=hw.add (x:=(wA L Cc ns X N (i+2)+2^L)%2^bg L (ns.getD (X.getD i 0) 0) (wA L Cc ns X N (i+2)+2^L)) (Nat.mod_lt _ (Nat.two_pow_pos _)) Om;grind [mD,bg,wA]
theorem kj.lt {P:List Nat} {C nb:Nat} (h:kj L Cc ns X N k V0 P C nb i):C<2^nb:=mD.lt h
theorem JL (h:iS L Cc ns S TT) {n c:Nat} (h1:1≤n) (hn:n<2^L) (hc:2^L≤c∧c<2^(L+1)):bg L n c≤6:=by
  have:=(kX h1 (Nat.le_of_lt hn) hc).1;rcases h.lg with rfl|rfl<;>omega
theorem DV (h:iS L Cc ns S TT) (hN:N≤X.length) (hs:∀s ∈ X.take N,1≤ns.getD s 0):∀d i,N-i=d→fN (buildD L Cc ns) ((encA L Cc ns (X.take N)).drop i)≤6*d
  |0,i,hd=>by
    have:=(rI (T:=buildD L Cc ns) (at_:=encA L Cc ns (X.take N)) (i:=i) (by rw[fS,List.length_take];omega)).1;omega
  |d+1,i,hd=>by
    have hl:(X.take N).length=N:=by rw[List.length_take];omega
    have ih:=DV h hN hs d (i+1) Om;rcases Nat.lt_or_ge (i+2) N with h2|h2
    · obtain⟨b1,b2⟩:=h.laid.bits hs (i:=i) Om;obtain⟨h3,h4⟩:=h.some hN hs (i:=i) Om;rw[tI (show i<N by omega)] at b1;have hw:=h.wlt hs (i+2);grind [JL,encA,wA]
    · grind [rI,buildD,encA,fS]
end
def fT (c:Int × Nat):List Value:=[.int .i32 c.1,.int .u32 ((c.2:Nat):Int)]
theorem eN (c:Int × Nat):(fT c).length=2:=rfl
theorem asM (x:Nat):x&&&2=x/2%2*2:=by
  apply Nat.eq_of_testBit_eq;intro i;rw[Nat.testBit_and,show(2:Nat)=2^1 from rfl,Nat.testBit_two_pow,show x/2^1%2^1*2^1=2^1*(x/2^1%2^1) by rw[Nat.mul_comm],Nat.testBit_two_pow_mul,Nat.testBit_mod_two_pow,Nat.testBit_div_two_pow];grind
section
variable {L:Nat} {Cc ns S X:List Nat} {TT:List (Int × Nat)} {N i i1 i2 k V0:Nat}
theorem iS.iC (h:iS L Cc ns S TT) {x:Nat} (hx:1≤ns.getD x 0):Value.agg (fT (TT.getD x (0,0))).toArray=Value.agg #[.int .i32 (((dI ns x:Nat):Int)-((ns.getD x 0:Nat):Int)),.int .u32 ((ou L (ns.getD x 0):Nat):Int)]:=by
  rw[h.tt x hx];rfl
theorem iS.pf (h:iS L Cc ns S TT) (hN:N≤X.length) (hs:∀s ∈ X.take N,1≤ns.getD s 0) (hi:i2<N) (h2:i2=i+2):
    S.getD (dI ns (X.getD i 0)+((wA L Cc ns X N i2+2^L)/2^bg L (ns.getD (X.getD i 0) 0) (wA L Cc ns X N i2+2^L)-ns.getD (X.getD i 0) 0)) 0=wA L Cc ns X N i+2^L:=by
  subst h2;exact h.next hN hs hi
theorem kj.pg (h:iS L Cc ns S TT) (hN:N≤X.length) (hs:∀s ∈ X.take N,1≤ns.getD s 0) {P:List Nat} {C nb:Nat} (hw:kj L Cc ns X N k V0 P C nb i1) (hi:i2<N) (h1:i1=i+1) (h2:i2=i+2) (hb:nb≤56):
    kj L Cc ns X N k V0 P (C+(wA L Cc ns X N i2+2^L)%2^bg L (ns.getD (X.getD i 0) 0) (wA L Cc ns X N i2+2^L)*2^nb) (nb+bg L (ns.getD (X.getD i 0) 0) (wA L Cc ns X N i2+2^L)) i:=by
  subst h1;subst h2;exact hw.step h hN hs hi hb
theorem iS.nV (h:iS L Cc ns S TT) (hs:∀s ∈ X.take N,1≤ns.getD s 0) (i:Nat):2^L≤wA L Cc ns X N i+2^L∧wA L Cc ns X N i+2^L<2^(L+1):=by
  have:=h.wlt (X:=X) (N:=N) hs i;omega
theorem iS.ajB (h:iS L Cc ns S TT) (hs:∀s ∈ X.take N,1≤ns.getD s 0) (i:Nat):wA L Cc ns X N i+2^L<65536:=by
  have:=h.wlt (X:=X) (N:=N) hs i;rcases h.lg with rfl|rfl<;>omega
theorem kj.small (h:iS L Cc ns S TT) (hN:N≤X.length) (hs:∀s ∈ X.take N,1≤ns.getD s 0) (hk:k≤1000) (DW:N≤255) (i:Nat):8*k+fN (buildD L Cc ns) ((encA L Cc ns (X.take N)).drop i)≤10000:=by
  have:=DV h hN hs (N-i) i rfl;omega
theorem kj.OJ (h:iS L Cc ns S TT) (hN:N≤X.length) (hs:∀s ∈ X.take N,1≤ns.getD s 0) (hi:i<N) (j:Nat):bg L (ns.getD (X.getD i 0) 0) (wA L Cc ns X N j+2^L)≤6:=by
  obtain⟨h1,h2⟩:=h.some hN hs hi;exact JL h h1 h2 (h.nV hs j)
theorem kj.fin (h:iS L Cc ns S TT) (hs:∀s ∈ X.take N,1≤ns.getD s 0) {P:List Nat} {m n V:Nat} (hi0:i=0) (hi1:i1=i+1)
    (hn:n=8*k+fN (buildD L Cc ns) ((encA L Cc ns (X.take N)).drop i)+L+L) (hV:V=V0+fR (buildD L Cc ns) ((encA L Cc ns (X.take N)).drop i)*2^(8*k)+(wA L Cc ns X N i1+2^L)%2^L*2^(8*k+fN (buildD L Cc ns) ((encA L Cc ns (X.take N)).drop i))+(wA L Cc ns X N i+2^L)%2^L*2^(8*k+fN (buildD L Cc ns) ((encA L Cc ns (X.take N)).drop i)+L))
    (hm:m=(n+1+7)/8) (ht:tailV P 0 m=2^n+V):
    m=k+(2*L+fN (buildD L Cc ns) (encA L Cc ns (X.take N)))/8+1∧tailV P 0 m=V0+2^(8*k)*(2^(2*L+fN (buildD L Cc ns) (encA L Cc ns (X.take N)))+(((encA L Cc ns (X.take N)).getD 0 0*2^L+(encA L Cc ns (X.take N)).getD 1 0)*2^fN (buildD L Cc ns) (encA L Cc ns (X.take N))+fR (buildD L Cc ns) (encA L Cc ns (X.take N)))):=by
  subst hi0;subst hi1;rw[List.drop_zero] at hn hV;have e0:(wA L Cc ns X N 0+2^L)%2^L=(encA L Cc ns (X.take N)).getD 0 0:=by rw[Nat.add_mod_right];exact Nat.mod_eq_of_lt (h.wlt hs 0)
  have e1:(wA L Cc ns X N (0+1)+2^L)%2^L=(encA L Cc ns (X.take N)).getD 1 0:=by rw[Nat.add_mod_right];exact Nat.mod_eq_of_lt (h.wlt hs _)
  grind
end
def Lz (L sz:Nat):Prop:=(L=5∧sz=32)∨(L=6∧sz=64)
section
variable {L sz:Nat}
theorem Lz.pow (h:Lz L sz):sz=2^L:=by rcases h with ⟨rfl,rfl⟩|⟨rfl,rfl⟩<;>rfl
theorem Lz.shl (h:Lz L sz):1*2^L%4294967296=sz:=by rcases h with ⟨rfl,rfl⟩|⟨rfl,rfl⟩<;>rfl
theorem Lz.ab9 (h:Lz L sz) (x:Nat):x&&&(sz-1)=x%sz:=by
  rcases h with ⟨rfl,rfl⟩|⟨rfl,rfl⟩
  · exact Nat.and_two_pow_sub_one_eq_mod x 5
  · exact Nat.and_two_pow_sub_one_eq_mod x 6
theorem Lz.half (h:Lz L sz):1*2^(L-1)≤32:=by rcases h with ⟨rfl,rfl⟩|⟨rfl,rfl⟩<;>decide
theorem Lz.one (h:Lz L sz):1*2^L≤64∧1*2^L=sz:=by rcases h with ⟨rfl,rfl⟩|⟨rfl,rfl⟩<;>decide
theorem Lz.step (h:Lz L sz):fG sz≤43∧sz/2^1+sz/2^3+3≤43:=by rcases h with ⟨rfl,rfl⟩|⟨rfl,rfl⟩<;>decide
theorem Lz.asN (h:Lz L sz):L*2^16%4294967296-sz=ou L 1:=by rcases h with ⟨rfl,rfl⟩|⟨rfl,rfl⟩<;>rfl
end
theorem WQ (n:Nat):(List.replicate n ([.int .i32 ((0:Nat):Int),.int .u32 ((0:Nat):Int)]:List Value)).flatten=rows fT (List.replicate n (0,0)):=by
  induction n with
  |zero=>rfl
  |succ n ih=>simp only[List.replicate_succ,List.flatten_cons,rows,List.flatMap_cons] at ih ⊢;rw[ih];rfl
theorem tJ {ns M:List Nat} {i x:Nat} (h:∀j,j≤i→M.getD j 0=dI ns j) (hi:i+1<M.length) (hx:x=M.getD i 0+ns.getD i 0):∀j,j≤i+1→(M.set (i+1) x).getD j 0=dI ns j:=fun j hj=>by
  grind [aS,dZ]
theorem mw.begin {C ns M:List Nat} {n y:Nat} (h:∀j,j≤n→M.getD j 0=dI ns j) (hn:ns.length=n) (hM:n<M.length):mw C ns (M.set n y) 0:=fun s hs=>by
  grind
theorem tu.begin {Z:Nat} {C ns S:List Nat}:tu Z C ns S 0:=fun w hw=>by omega
theorem tu.OL {Z u c:Nat} {C ns S M:List Nat} (h:tu Z C ns S u) (hC:mw C ns M u) (tq:∀x,C.count x=ns.getD x 0) (hu:u<C.length) (hc:c=C.getD u 0) (hcl:c<ns.length) (hS:M.getD c 0<S.length):tu Z C ns (S.set (M.getD c 0) (Z+u)) (u+1):=by
  subst hc;rw[hC _ hcl] at hS ⊢;exact h.step tq hu hS
theorem mw.OL {u c:Nat} {C ns M:List Nat} (h:mw C ns M u) (hu:u<C.length) (hc:c=C.getD u 0) (jz:c<ns.length) (hM:ns.length≤M.length):mw C ns (M.set c (M.getD c 0+1)) (u+1):=by
  subst hc;exact h.step hu jz hM
theorem mw.lt {u c:Nat} {C ns M:List Nat} (h:mw C ns M u) (tq:∀x,C.count x=ns.getD x 0) (hu:u<C.length) (hc:c=C.getD u 0) (jz:c<ns.length):M.getD c 0<ns.sum:=by
  subst hc;rw[h _ jz];have h1:=lL tq hu;have h2:=kH (ns:=ns) (s:=C.getD u 0+1);grind [dZ]
def xP (L:Nat) (ns:List Nat) (TT:List (Int × Nat)) (i:Nat):Prop:=∀s,s<i→1≤ns.getD s 0→TT.getD s (0,0)=(((dI ns s:Nat):Int)-((ns.getD s 0:Nat):Int),ou L (ns.getD s 0))
section
variable {L i:Nat} {ns:List Nat} {TT:List (Int × Nat)}
theorem xP.begin:xP L ns TT 0:=fun s h=>by omega
theorem xP.skip (h:xP L ns TT i) (h0:ns.getD i 0=0):xP L ns TT (i+1):=fun s hs h1=>by
  rcases Nat.lt_or_eq_of_le (Nat.le_of_lt_succ hs) with h2|h2
  · exact h s h2 h1
  · grind
theorem xP.put (h:xP L ns TT i) (hi:i<TT.length) {x:Nat} {y z:Int} (hx:x=ou L (ns.getD i 0)) (hy:y=((dI ns i:Nat):Int)-((ns.getD i 0:Nat):Int)):xP L ns ((TT.set i (z,x)).set i (y,((TT.set i (z,x)).getD i (0,0)).2)) (i+1):=fun s hs h1=>by
  rw[List.set_set];have e:((TT.set i (z,x)).getD i (0,0)).2=x:=by simp[List.getD_eq_getElem?_getD,hi]
  rw[e];rcases Nat.lt_or_eq_of_le (Nat.le_of_lt_succ hs) with h2|h2
  · have:(TT.set i (y,x)).getD s (0,0)=TT.getD s (0,0):=by simp[List.getD_eq_getElem?_getD,List.getElem?_set,show¬i=s by omega]
    rw[this];exact h s h2 h1
  · grind
end
theorem iS.mk' {L sz:Nat} {P:List Int} {S:List Nat} {TT:List (Int × Nat)} (hC:bu L P) (hL:Lz L sz) (hS:tu sz (cV L P) (a4 P) S sz) (hT:xP L (a4 P) TT P.length) (ht:TT.length=256) (hs:S.length=sz):iS L (cV L P) (a4 P) S TT:=by
  have hl:=hC.laid;have hp:=hL.pow;refine⟨hl,hC.lg,fun s j hj=>?_,fun s h1=>?_,ht,by rw[hs,hp],hC.sum⟩
  · rw[hp, ←hl.len] at hS;have:=hS.get hl.cnt hj;rw[this,hl.len]
  · refine hT s ?_ h1;grind [DU]
theorem WS {L n:Nat} (hn:n≠1):ou L n=(L-(aq (n-1)-1))*65536-n*2^(L-(aq (n-1)-1)):=by unfold ou;rw[if_neg hn]
theorem aca {L sz:Nat} {P:List Int} (hC:bu L P) (hL:Lz L sz):(a4 P).sum=sz:=by rw[hC.sum,hL.pow]
theorem DX {L sz:Nat} {P:List Int} (hC:bu L P) (hL:Lz L sz) (s:Nat): -1≤P.getD s 0∧P.getD s 0<sz:=by
  have:=hC.at_ s;rw[hL.pow]
  push_cast
  exact this
theorem eG.cast {α:Type} {size m k j j':Nat} {all G:Nat→α} (e:j=j') (h:eG size m all G k j):eG size m all G k j':=e▸h
def z3:Nat→List Nat
  |0=>[]
  |t+1=>z3 t++ez 3 2
theorem JM:∀t,ez 3 2++z3 t=z3 t++ez 3 2
  |0=>by simp[z3]
  |t+1=>by rw[z3, ←List.append_assoc,JM t]
theorem acb {r:Nat} (hr:r<3):zerosB r=ez r 2:=by
  match r,hr with
  |0,_=>rfl
  |1,_=>rfl
  |2,_=>rfl
theorem Ap {r:Nat} (hr:r<3):∀t,zerosB (3*t+r)=z3 t++ez r 2
  |0=>by rw[Nat.mul_zero,Nat.zero_add,acb hr];rfl
  |t+1=>by
    rw[show 3*(t+1)+r=(3*t+r)+3 by omega];show ez 3 2++zerosB (3*t+r)=_;rw[Ap hr t, ←List.append_assoc,JM];rfl
theorem mD.acd {P H:List Nat} {C nb x b:Nat} (h:mD P C nb H.length (lowV H)) (hx:x<2^b) (hb:nb+b≤63):mD P (C+x*2^nb) (nb+b) (H++ez x b).length (lowV (H++ez x b)):=by
  have h1:=h.add hx hb;rw[fQ,List.length_append,bA,fH,Nat.mod_eq_of_lt hx,Nat.mul_comm (2^H.length)];exact h1
theorem Aq {O:List Nat} {op C:Nat} (ho:op+1<O.length):((O.set op (C%256)).set (op+1) (C/2^8%256)).take (op+2)=O.take op++bK C 2:=by
  rw[←JI];apply List.ext_getElem?;grind
theorem mD.ajC {O:List Nat} {op C nb n V:Nat} (h:mD (O.take op) C nb n V) (hb:16≤nb) (ho:op+1<O.length):mD (((O.set op (C%256)).set (op+1) (C/2^8%256)).take (op+2)) (C/2^16) (nb-16) n V:=by
  rw[Aq ho];exact h.flush (k:=2) hb
def Gt (L:Nat) (E:List Nat):List Nat:=ez (L-5) 4++E
structure WC (L:Nat) (P:List Int) (O:List Nat) (pz:Bool) (rem i bs bc op:Nat) (E:List Nat):Prop where
  wr:mD (O.take op) bs bc (Gt L E).length (lowV (Gt L E))
  wz:DK (2^L) P pz (rem-1) i E
  bd:Bq L pz rem i (4+E.length)
  r1:1≤rem
  r2:rem+dI (a4 P) i=2^L+1
  pz1:pz=true→2≤rem
  ol:op≤O.length
  il:i≤P.length
structure WM (L:Nat) (P:List Int) (O:List Nat) (rem i bs bc op:Nat) (E:List Nat):Prop where
  wr:mD (O.take op) bs bc (Gt L E).length (lowV (Gt L E))
  wz:DK (2^L) P false (rem-1) i E
  bd:4+E.length+(if 2^L≤rem then 1 else 0)≤5+(L+1)*i+1
  bz:P.getD i 0=0→Bq L false rem i (4+E.length)
  r1:2≤rem
  r2:rem+dI (a4 P) i=2^L+1
  ol:op≤O.length
  il:i<P.length
structure WR (L:Nat) (P:List Int) (O:List Nat) (rem i t bs bc op:Nat) (E:List Nat):Prop where
  wr:mD (O.take op) bs bc (Gt L (E++z3 t)).length (lowV (Gt L (E++z3 t)))
  wz:DK (2^L) P true (rem-1) i E
  bd:Bq L true rem i (4+E.length)
  r1:2≤rem
  r2:rem+dI (a4 P) i=2^L+1
  ol:op≤O.length
theorem JN (L:Nat) (E:List Nat):(Gt L E).length=4+E.length:=by unfold Gt;rw[List.length_append,bA]
theorem BD (L:Nat) (E F:List Nat):Gt L (E++F)=Gt L E++F:=by unfold Gt;rw[List.append_assoc]
section
variable {L rem i j bs bc op t k:Nat} {P:List Int} {O E:List Nat} {pz:Bool}
theorem WC.begin (hL:L=5∨L=6) (hr:rem=2^L+1):WC L P O false rem 0 (L-5) 4 0 []:=by
  subst hr;have hp:=Nat.two_pow_pos L;refine⟨?_,by rw[Nat.add_sub_cancel];exact DK.begin _ _,?_,Om,rfl,(fun h=>by cases h),Nat.zero_le _,Nat.zero_le _⟩
  · rw[show Gt L []=ez (L-5) 4 by simp[Gt],bA,fH,Nat.mod_eq_of_lt Om];exact⟨(fun x hx=>by simp at hx),Om,Od,Oi,by simp[tailV]⟩
  · grind [Bq]
theorem ace (h:mD (O.take op) bs bc (Gt L E).length (lowV (Gt L E))) (ho:op≤O.length):8*op+bc=4+E.length:=by
  have:=h.len;grind [JN]
theorem WC.room (h:WC L P O pz rem i bs bc op E) (hL:L=5∨L=6):(L=5∧8*op+bc≤5+6*i)∨(L=6∧8*op+bc≤5+7*i):=by
  have h1:=ace h.wr h.ol;have h2:=h.bd;grind [Bq]
theorem WM.room (h:WM L P O rem i bs bc op E) (hL:L=5∨L=6):(L=5∧8*op+bc≤6+6*i)∨(L=6∧8*op+bc≤6+7*i):=by
  have h1:=ace h.wr h.ol;have h2:=h.bd;grind
theorem WC.lt (h:WC L P O pz rem i bs bc op E):bs<2^bc:=h.wr.lt
theorem WC.ilt (h:WC L P O pz rem i bs bc op E) (hs:(a4 P).sum=2^L) (hr:1<rem):i<P.length:=by
  apply Classical.byContradiction;intro hn;have h2:=h.r2;have:dI (a4 P) i=2^L:=by rw[←hs];unfold dI;rw[List.take_of_length_le (by rw[jf];omega)]
  omega
theorem WC.sJ (h:WC L P O pz rem i bs bc op E) (hp:pz=false) (hs:(a4 P).sum=2^L) (hr:1<rem):WM L P O rem i bs bc op E:=by
  subst hp;exact⟨h.wr,h.wz,h.bd.sJ,fun _=>h.bd,hr,h.r2,h.ol,h.ilt hs hr⟩
theorem WC.ajD (h:WC L P O pz rem i bs bc op E) (hp:pz=true):WR L P O rem i 0 bs bc op E:=by
  subst hp;exact⟨by simpa [z3] using h.wr,h.wz,h.bd,h.pz1 rfl,h.r2,h.ol⟩
theorem va {ns:List Nat} {i:Nat}:∀z,(∀j,j<z→ns.getD (i+j) 0=0)→dI ns (i+z)=dI ns i
  |0,_=>rfl
  |z+1,h=>by rw[←Nat.add_assoc,dZ,va z (fun j hj=>h j Om),h z Om,Nat.add_zero]
theorem vb {P:List Int} {i:Nat}:(a4 P).getD i 0=0↔P.getD i 0=0:=by rw[zm];omega
theorem WR.more (h:WR L P O rem i t bs bc op E) (hs:(a4 P).sum=2^L) {z:Nat} (hz:∀j,j<z→P.getD (i+j) 0=0):i+z<P.length:=by
  have h1:=va (ns:=a4 P) (i:=i) z fun j hj=>vb.2 (hz j hj)
  have h2:=h.r2;have h3:=h.r1;apply Classical.byContradiction;intro hn;have:dI (a4 P) (i+z)=2^L:=by rw[←hs];unfold dI;rw[List.take_of_length_le (by rw[jf];omega)]
  omega
theorem WR.three (h:WR L P O rem i t bs bc op E) (hb:bc≤30):WR L P O rem i (t+1) (bs+3*2^bc) (bc+2) op E:=by
  refine⟨?_,h.wz,h.bd,h.r1,h.r2,h.ol⟩;have:=h.wr.acd (x:=3) (b:=2) Od Om;grind [z3,ez,BD]
theorem WR.fin (h:WR L P O rem i t bs bc op E) (hb:bc≤30) {r z:Nat} (hr:r<3) (hz:z=3*t+r) (h0:∀j,j<z→P.getD (i+j) 0=0) (hc:P.getD (i+z) 0≠0) (hs:(a4 P).sum=2^L):WM L P O rem (i+z) (bs+r*2^bc) (bc+2) op (E++zerosB z):=by
  have hl:=h.more hs h0;have e:zerosB z=z3 t++ez r 2:=by rw[hz];exact Ap hr t
  refine⟨?_,h.wz.run hl h0 hc,?_,fun h9=>absurd h9 hc,h.r1,?_,h.ol,hl⟩
  · have:=h.wr.acd (x:=r) (b:=2) Om Om;grind [BD]
  · have:=h.bd.run z;grind
  · rw[va z fun j hj=>vb.2 (h0 j hj)];exact h.r2
theorem WM.put (h:WM L P O rem i bs bc op E) (hb:16<bc) (ho:op+1<O.length):WM L P ((O.set op (bs%256)).set (op+1) (bs/2^8%256)) rem i (bs/2^16) (bc-16) (op+2) E:=
  ⟨h.wr.ajC Om ho,h.wz,h.bd,h.bz,h.r1,h.r2,Oz,h.il⟩
theorem WC.put (h:WC L P O pz rem i bs bc op E) (hb:16<bc) (ho:op+1<O.length):WC L P ((O.set op (bs%256)).set (op+1) (bs/2^8%256)) pz rem i (bs/2^16) (bc-16) (op+2) E:=
  ⟨h.wr.ajC Om ho,h.wz,h.bd,h.r1,h.r2,h.pz1,Oz,h.il⟩
theorem ajE {rem v k mx w b:Nat} (h1:2^k≤rem) (h2:rem<2^(k+1)) (hm:mx=2*2^k-1-rem) (hv:v≤rem) (hw:(v<2^k∧w=v)∨(2^k≤v∧w=v+mx)) (hb:(w<mx∧b+1=k+1)∨(mx≤w∧b=k+1)):gW rem v=ez w b∧w<2^b:=by
  have hp:=Nat.two_pow_pos k;have L5:aq rem=k+1:=qm (by rw[Nat.add_sub_cancel];exact h1) h2 Om;grind [gW]
theorem WM.next (h:WM L P O rem i bs bc op E) (hL:L=5∨L=6) (wC: -1≤P.getD i 0) (hs:(a4 P).sum=2^L) {v mx w b rm:Nat} (h1:2^k≤rem) (h2:rem<2^(k+1)) (hv:(v:Int)=P.getD i 0+1) (hm:mx=2*2^k-1-rem) (hw:(v<2^k∧w=v)∨(2^k≤v∧w=v+mx)) (hb:(w<mx∧b+1=k+1)∨(mx≤w∧b=k+1)) (hbc:bc≤30) (hk:k≤6) (hrm:rm=rem-(a4 P).getD i 0):
    ∃E',WC L P O (decide (((w:Nat):Int)=((1:Nat):Int))) rm (i+1) (bs+w*2^bc) (bc+b) op E':=by
  have kS:=kH (ns:=a4 P) (s:=i+1);rw[dZ,hs,zm] at kS;rw[zm] at hrm;have hr2:=h.r2;have FE:=h.r1;have hp:=Nat.two_pow_pos k;obtain⟨e1,e2⟩:=ajE (v:=v) h1 h2 hm Om hw hb;have hkk:1≤k:=by
    grind
  have uw:2≤2^k:=Nat.pow_le_pow_right (n:=2) Om hkk;have hw1:w=1↔P.getD i 0=0:=Om;have hwr:=h.wr.acd e2 Om;rw[←e1, ←BD] at hwr;refine⟨E++gW rem v,hwr,?_,?_,Om,by rw[dZ,zm];omega,?_,h.ol,h.il⟩
  · by_cases h0:P.getD i 0=0
    · rw[decide_eq_true (by rw[hw1.2 h0]),show rm-1=rem-1 by omega];have:=h.wz.zero h.il h0 Om;grind
    · rw[decide_eq_false (by have:=fun q=>h0 (hw1.1 q);omega),show rm-1=rem-1-(P.getD i 0).natAbs by omega];have:=h.wz.num h.il rfl h0 wC Om;grind
  · rw[List.length_append, ←Nat.add_assoc];by_cases h0:P.getD i 0=0
    · rw[decide_eq_true (by rw[hw1.2 h0]),show v=1 by omega,show rm=rem by omega];exact(h.bz h0).zero hL Om Om
    · rw[decide_eq_false (by have:=fun q=>h0 (hw1.1 q);omega),hrm];exact Bq.num h.bd hL Om Om Om Om Om
  · grind
theorem OM {zo k:Nat} (h:zo=2^k) (hk:1≤k):zo/2^1=2^(k-1)∧2^(k-1+1)=2^k:=by
  grind
theorem WC.done (h:WC L P O pz rem i bs bc op E) (hs:(a4 P).sum=2^L) (hr:rem=1) (hb:bc≤16) (ho:op+1<O.length) (o9:P.getD (P.length-1) 0≠0) (hP:1≤P.length) {m:Nat} (hm:m=op+(bc+7)/8):
    ∃E,cx (2^L) P E∧m=(4+E.length+7)/8∧m≤op+2∧Bytes (((O.set op (bs%256)).set (op+1) (bs/2^8%256)).take m)∧tailV (((O.set op (bs%256)).set (op+1) (bs/2^8%256)).take m) 0 m=lowV (ez (L-5) 4++E):=by
  have hlen:=ace h.wr h.ol;have hr2:=h.r2;have hi:i=P.length:=by
    rcases Nat.lt_trichotomy i P.length with h1|h1|h1
    · have h2:=kH (ns:=a4 P) (s:=P.length-1+1);have h3:dI (a4 P) i≤dI (a4 P) (P.length-1):=by
        rcases Nat.lt_or_ge i (P.length-1) with h4|h4
        · have:=uY (ns:=a4 P) h4;omega
        · grind
      grind [dZ,a4,vb]
    · exact h1
    · have:=h.il;omega
  have hpz:pz=false:=by
    cases pz with
    |false=>rfl
    |true=>have:=h.pz1 rfl;omega
  obtain⟨a1,a2,a3⟩:=h.wr.align (k:=(bc+7)/8) rfl;rw[JN] at a2 a3;have YI:=h.wz;rw[hr] at YI;have U0:m=(4+E.length+7)/8:=Om;have e:((O.set op (bs%256)).set (op+1) (bs/2^8%256)).take m=O.take op++bK bs ((bc+7)/8):=by
    have e1:((O.set op (bs%256)).set (op+1) (bs/2^8%256)).take (op+2)=O.take op++bK bs 2:=Aq ho;have e2:((O.set op (bs%256)).set (op+1) (bs/2^8%256)).take m=(((O.set op (bs%256)).set (op+1) (bs/2^8%256)).take (op+2)).take m:=by rw[List.take_take,Nat.min_eq_left Om]
    rw[e2,e1,List.take_append,List.take_of_length_le (by rw[List.length_take];omega),List.length_take,Nat.min_eq_left h.ol,show m-op=(bc+7)/8 by omega];congr 1;unfold bK;rw[←List.map_take,List.take_range,Nat.min_eq_left Om]
  refine⟨E,YI.done hpz hi,U0,Om,by rw[e];exact a1,?_⟩;rw[e,U0];exact a3
theorem K4 {P:List Int} {i x:Nat} (h:∀q,q<x-i→P.getD (i+q) 0=0) (h0:P.getD x 0=0) (hi:i≤x):∀q,q<x+1-i→P.getD (i+q) 0=0:=fun q hq=>by
  grind
theorem acf {b:Nat} (h:b≤24):2^b≤16777216:=Nat.pow_le_pow_right (n:=2) Om h
theorem ajF {r k:Nat} (h1:1≤r) (h:r<2^k):1≤k:=by
  grind
theorem WM.ns (h:WM L P O rem i bs bc op E) (hs:(a4 P).sum=2^L):(a4 P).getD i 0+1≤rem:=by
  have h2:=kH (ns:=a4 P) (s:=i+1);have h3:=h.r2;grind [dZ]
theorem ON {n mh:Nat} (h2:2≤n) (hn:n≤12) (hi:i≤n) (ho:op%2=0) (hb:1≤bc) (hr:(L=5∧8*op+bc≤5+6*i)∨(L=6∧8*op+bc≤5+7*i)) (hm:(L=5∧mh=(n*5+6)/8+3)∨(L=6∧mh=(n*6+6)/8+3)):op+1<mh:=by
  grind
theorem acg {w b:Nat} (h:w≤255):w*2^b≤255*2^b:=Nat.mul_le_mul_right _ h
end
theorem k8 {W:Nat→Nat} {i:Nat}:∀{n:Nat},i≤n→sm W i≤sm W n
  |0,h=>by rw[show i=0 by omega];exact Nat.le_refl _
  |n+1,h=>by
    rcases Nat.lt_or_eq_of_le h with h1|h1
    · have:=k8 (W:=W) (show i≤n by omega);simp only[sm];omega
    · grind
theorem ph {W:Nat→Nat} {i n:Nat} (h:i<n):W i≤sm W n:=by
  have:=k8 (W:=W) (show i+1≤n by omega);grind [sm]
def oy (CN:List Nat) (j:Nat):Nat:=CN.getD j 0
section
variable {CN:List Nat} {R:List Int} {S i n d T lo L Z:Nat}
structure BE (CN:List Nat) (R:List Int) (S i d T lo:Nat):Prop where
  nj:Gn CN R i
  hd:d=rP L7 R i
  ht:T+sm (oy CN) i=S+rP (y6 CN) R i
  ha:sm (oy CN) i≤rP (y6 CN) R i+d*lo
theorem BE.zero:BE CN R S 0 0 S lo:=⟨Gn.zero _ _,rfl,rfl,Nat.zero_le _⟩
theorem BE.none (h:BE CN R S i d T lo) (hi:i<R.length) (h0:CN.getD i 0=0):BE CN (R.set i 0) S (i+1) d T lo:=by
  refine⟨h.nj.step hi (.inl ⟨h0,rfl⟩),?_,?_,?_⟩
  · rw[ek hi, ←h.hd];rfl
  · rw[ek hi];have:=h.ht;simp only[sm,oy,y6] at this ⊢;rw[h0];simp;omega
  · rw[ek hi];have:=h.ha;simp only[sm,oy,y6] at this ⊢;rw[h0];simp;omega
theorem BE.rest (h:BE CN R S i d T lo) (hi:i<R.length) (h0:CN.getD i 0≠0):BE CN (R.set i (-2)) S (i+1) d T lo:=by
  refine⟨h.nj.step hi (.inr ⟨h0,.inr (.inr rfl)⟩),?_,?_,?_⟩
  · rw[ek hi, ←h.hd];rfl
  · rw[ek hi];have:=h.ht;simp only[sm,oy,y6] at this ⊢;simp;omega
  · rw[ek hi];have:=h.ha;simp only[sm,oy,y6] at this ⊢;simp;omega
theorem BE.room (h:BE CN R S i d T lo) (hS:sm (oy CN) n=S) (hi:i<n):CN.getD i 0≤T∧CN.getD i 0≤S:=by
  have h1:=k8 (W:=oy CN) (show i+1≤n by omega);have h2:=h.ht;grind [sm,oy]
theorem BE.low (h:BE CN R S i d T lo) (hi:i<R.length) (h0:CN.getD i 0≠0) (hl:CN.getD i 0≤lo) {v:Int} (hv:v= -1∨v=1) (hT:CN.getD i 0≤T):BE CN (R.set i v) S (i+1) (d+1) (T-CN.getD i 0) lo:=by
  have v9:v≠ -2:=Om;refine⟨h.nj.step hi (.inr ⟨h0,Om⟩),?_,?_,?_⟩
  · rw[ek hi, ←h.hd];simp only[L7,if_neg v9];omega
  · rw[ek hi];have:=h.ht;simp only[sm,oy,y6,if_neg v9] at this ⊢;omega
  · rw[ek hi,Nat.succ_mul];have:=h.ha;simp only[sm,oy,y6,if_neg v9] at this ⊢;omega
structure U4 (CN:List Nat) (R:List Int) (n d T:Nat):Prop where
  nj:Gn CN R n
  hd:d=rP L7 R n
  ht:T=rP (y6 CN) R n
theorem BE.done (h:BE CN R S n d T lo) (hS:sm (oy CN) n=S):U4 CN R n d T:=⟨h.nj,h.hd,by have:=h.ht;omega⟩
theorem BE.pos (h:BE CN R S n d T lo) (hS:sm (oy CN) n=S) (hL:L=5∨L=6) (h0:0<S) (hn:n≤13) (zl:lo=S*3/2^(L+1)):0<T:=by
  have h1:=h.nj.aju;have h2:=h.ht;have h3:=h.ha;have h4:=h.hd;have:=WD (S:=S) (d:=d) (A:=S-T) (lo:=lo) (L:=L) hL h0 Om (by rw[zl,Nat.mul_comm]) Om;omega
theorem U4.le (h:U4 CN R n d T):d≤n:=by rw[h.hd];exact h.nj.aju
theorem U4.room (h:U4 CN R n d T) (hi:i<n) (hv:R.getD i 0= -2):CN.getD i 0≤T:=by
  have:=ph (W:=fun j=>y6 CN j (R.getD j 0)) hi;rw[h.ht];simp only[y6,hv,if_true] at this;exact this
theorem U4.put (h:U4 CN R n d T) (hi:i<n) (hl:i<R.length) (hv:R.getD i 0= -2):U4 CN (R.set i 1) n (d+1) (T-CN.getD i 0):=by
  have e1:=Bz (F:=L7) (v:=1) hi hl;have e2:=Bz (F:=y6 CN) (v:=1) hi hl;rw[hv] at e1 e2;refine⟨h.nj.put hl hi hv,?_,?_⟩
  · rw[h.hd];simp[L7] at e1;omega
  · rw[h.ht];simp[y6] at e2;simp[y6];omega
theorem ach {S L:Nat}:S/2^L≤S*3/2^(L+1):=by
  have hp:=Nat.two_pow_pos L;rw[Nat.le_div_iff_mul_le (Nat.two_pow_pos _),Nat.pow_succ, ←Nat.mul_assoc];have:=Nat.div_mul_le_self S (2^L);omega
theorem Gp.small {N0 NR:List Int} {v sJ rs tmp d iQ:Nat} (h:Gp CN N0 NR n i v sJ rs tmp) (hL:L=5∨L=6) (hv:v=62-L) (KY:sJ=2^(v-1)-1) (ht:iQ=rP (y6 CN) N0 n) (hd:d≤2^L) (Ol:rs=(2^v*(2^L-d)+sJ)/iQ) (hi:i<n) (he:NR.getD i 0= -2):tmp+CN.getD i 0*rs≤9223372036854775807:=by
  have e:=h.rest i (Nat.le_refl _);rw[he] at e;have h1:rP (y6 CN) N0 (i+1)≤iQ:=by rw[ht];exact k8 (W:=fun j=>y6 CN j (N0.getD j 0)) Om
  rw[mC, ←e] at h1;simp only[y6,if_true] at h1;have h2:=Nat.mul_le_mul_right rs h1;have h3:iQ*rs≤2^v*(2^L-d)+sJ:=by rw[Ol];exact Nat.mul_div_le _ _
  have h4:=h.at_;grind
theorem Ar {x L:Nat} (hx:x≤9223372036854775807) (hL:L=5∨L=6):x/2^(62-L)≤128:=by
  grind
structure DY (L Z:Nat) (CN:List Nat) (R:List Int) (S i:Nat) (still:Int) (lp lg:Nat):Prop where
  nm:On CN R i
  lg:u7 R i lp lg
  st:still=(Z:Int)-(rP fA R i:Nat)
  sml:rP fA R i≤65*i
  big:∀j,j<i→S/2^L<CN.getD j 0→1≤R.getD j 0
theorem DY.zero:DY L Z CN R S 0 (Z:Int) 0 0:=⟨On.zero _ _,u7.zero _ _,by simp[rP,sm],by simp[rP,sm],fun j h=>Om⟩
theorem xQ {zo:Nat} {v:Int} (h:∀j,j<i→zo<CN.getD j 0→1≤R.getD j 0) (hi:i<R.length) (hv:zo<CN.getD i 0→1≤v):∀j,j<i+1→zo<CN.getD j 0→1≤(R.set i v).getD j 0:=fun j hj hb=>by
  grind
theorem DY.none {still:Int} {lp lg:Nat} (h:DY L Z CN R S i still lp lg) (hi:i<R.length) (h0:CN.getD i 0=0):DY L Z CN (R.set i 0) S (i+1) still lp lg:=by
  refine⟨h.nm.step hi Od Om,h.lg.low hi Od,?_,?_,xQ h.big hi (fun h9=>by rw[h0] at h9;exact absurd h9 (Nat.not_lt_zero _))⟩
  · rw[ek hi];have:=h.st;simp only[fA];simp;omega
  · rw[ek hi];have:=h.sml;simp only[fA];simp;omega
theorem DY.low {still:Int} {lp lg:Nat} (h:DY L Z CN R S i still lp lg) (hi:i<R.length) (h0:CN.getD i 0≠0) (hl:CN.getD i 0≤S/2^L):DY L Z CN (R.set i (-1)) S (i+1) (still-1) lp lg:=by
  refine⟨h.nm.step hi Od Om,h.lg.low hi Od,?_,?_,xQ h.big hi (fun h9=>Om)⟩
  · rw[ek hi];have:=h.st;simp only[fA];simp;omega
  · rw[ek hi];have:=h.sml;simp only[fA];simp;omega
theorem DY.put {still:Int} {lp lg pb WT WU:Nat} (h:DY L Z CN R S i still lp lg) (hi:i<R.length) (h0:CN.getD i 0≠0) (hp:1≤pb∧pb≤65) (hl:(lp<pb∧WT=pb∧WU=i)∨(pb≤lp∧WT=lp∧WU=lg)):DY L Z CN (R.set i (pb:Int)) S (i+1) (still-(pb:Int)) WT WU:=by
  refine⟨h.nm.step hi Om (by constructor<;>intro h9<;>omega),?_,?_,?_,xQ h.big hi (fun _=>Om)⟩
  · rcases hl with ⟨_,rfl,rfl⟩|⟨h2,rfl,rfl⟩
    · grind [u7.new]
    · exact h.lg.old hi hp.1 h2
  · rw[ek hi];have:=h.st;simp only[fA];simp;omega
  · rw[ek hi];have:=h.sml;simp only[fA];simp;omega
theorem DY.top {still:Int} {lp lg:Nat} (h:DY L Z CN R S n still lp lg) (hS:sm (oy CN) n=S) (h0:0<S) (hn:n<2^L):1≤lp∧lg<n∧R.getD lg 0=(lp:Int):=by
  rcases h.lg with ⟨h1,h2⟩|h1
  · obtain⟨j,hj,hb⟩:=DO hS h0 hn;have:=h.big j hj hb;grind
  · exact h1
theorem DY.fin (hZ:Z=2^L) {still v:Int} {lp lg:Nat} (h:DY L Z CN R S n still lp lg) (h1:1≤lp∧lg<n∧R.getD lg 0=(lp:Int)) (hl:n≤R.length) (hv:v=R.getD lg 0+still) (hb:¬((lp/2^1:Nat):Int)≤ -still):vJ L CN (R.set lg v) n:=by
  have e:=Bz (F:=fA) (v:=v) h1.2.1 (show lg<R.length by omega);have hs:=h.st;have h2:=h1.2.2;simp only[fA] at e;refine⟨h.nm.put Om Om Om,?_⟩;omega
end
def mT:List Nat:=[0,473195,504333,520860,550000,700000,750000,830000]
theorem aci (i:Nat):mT.getD i 0≤830000:=by
  rcases Nat.lt_or_ge i 8 with h|h
  · have:∀i,i<8→mT.getD i 0≤830000:=Od;exact this i h
  · simp_all [mT]
theorem vM {L x:Nat} (hL:L=5∨L=6) (hx:x≤830000):1*2^(62-L-20)*x≤1152921504606846976∧1*2^(62-L-20)≤137438953472:=by
  grind
theorem lD {xs:List Nat} (h:Bytes xs):∀n,tailV xs 0 n<2^(8*n)
  |0=>by simp[tailV]
  |n+1=>by
    have ih:=lD h n;have hb:=h.at_ n;simp only[tailV,Nat.zero_add];have:xs.getD n 0*2^(8*n)≤255*2^(8*n):=Nat.mul_le_mul_right _ Om;grind
theorem As {xs ys:List Nat} (hx:Bytes xs) (hy:Bytes ys):∀n,tailV xs 0 n=tailV ys 0 n→∀i,i<n→xs.getD i 0=ys.getD i 0
  |0,_,i,h=>by omega
  |n+1,e,i,h=>by
    have h1:=lD hx n;have h2:=lD hy n;simp only[tailV,Nat.zero_add] at e;have hp:=Nat.two_pow_pos (8*n);have e1:xs.getD n 0=ys.getD n 0:=by
      have:=congrArg (fun z=>z/2^(8*n)) e;simp only[Nat.add_mul_div_right _ _ hp,Nat.div_eq_of_lt h1,Nat.div_eq_of_lt h2] at this;omega
    have e2:tailV xs 0 n=tailV ys 0 n:=by rw[e1] at e;omega
    rcases Nat.lt_or_eq_of_le (Nat.le_of_lt_succ h) with h3|h3
    · exact As hx hy n e2 i h3
    · grind
theorem tK {xs ys:List Nat} (hl:xs.length=ys.length) (h:∀i,i<xs.length→xs.getD i 0=ys.getD i 0):xs=ys:=by
  apply List.ext_getElem hl;grind
theorem Gu {ys H:List Nat} {k m r:Nat} (hy:Bytes ys) (hH:Bytes H) (hk:H.length=k) (hkm:k≤m) (hm:ys.length=m) (e:tailV ys 0 m=tailV H 0 k+2^(8*k)*r):ys=H++ys.drop k∧tailV (ys.drop k) 0 (m-k)=r:=by
  have h1:=uS hy 0 (m:=k) (n:=m) hkm;have hb:=lD hH k;rw[e,Nat.add_mul_mod_self_left,Nat.mod_eq_of_lt hb] at h1;have h3:ys.take k=H:=tK (by rw[List.length_take];omega) fun i hi=>by
    have hik:i<k:=by rw[List.length_take] at hi;omega
    have h4:=As hH hy k h1 i hik;grind
  have h5:ys=H++ys.drop k:=by rw[←h3,List.take_append_drop]
  refine⟨h5,?_⟩;have h6:=kK H (ys.drop k) (m-k) (by rw[List.length_drop];omega);rw[←h5,hk,show k+(m-k)=m by omega,e,Nat.mul_comm (2^(8*k)) r] at h6;have hp:=Nat.two_pow_pos (8*k);exact(Nat.eq_of_mul_eq_mul_right hp Om).symm
theorem acj {L m:Nat} {P:List Int} {E W ys text:List Nat} {S:List Nat} {TT:List (Int × Nat)} {k:Nat} (hC:bu L P) (hD:cx (2^L) P E) (hW:Bytes W) (hk:k=(4+E.length+7)/8) (DZ:W.length=k) (hV:tailV W 0 k=lowV (ez (L-5) 4++E)) (hy:Bytes ys) (U3:ys.length=m) (h2:2≤text.length) (hs:∀s ∈ text,1≤(a4 P).getD s 0)
    (hm:m=k+(2*L+fN (buildD L (cV L P) (a4 P)) (encA L (cV L P) (a4 P) text))/8+1)
    (ht:tailV ys 0 m=lowV (ez (L-5) 4++E)+2^(8*k)*(2^(2*L+fN (buildD L (cV L P) (a4 P)) (encA L (cV L P) (a4 P) text))+(((encA L (cV L P) (a4 P) text).getD 0 0*2^L+(encA L (cV L P) (a4 P) text).getD 1 0)*2^fN (buildD L (cV L P) (a4 P)) (encA L (cV L P) (a4 P) text)+fR (buildD L (cV L P) (a4 P)) (encA L (cV L P) (a4 P) text)))):
    fz L P text ys∧2≤ys.length:=by
  rw[←hV] at ht;obtain⟨e1,e2⟩:=Gu hy hW DZ Om U3 ht;refine⟨⟨hC,E,W,ys.drop k,e1,hD,hW,by rw[DZ,hk],by rw[←hk];exact hV,⟨_,hC.laid.text hs h2,fun i hi h3=>hC.laid.ends hs i hi h3,fun x hx=>hy x (List.mem_of_mem_drop hx),?_,?_⟩⟩,Om⟩
  · grind [fN,eB]
  · grind [eB]
theorem OO {L:Nat} {CN:List Nat} {NR:List Int} {n s:Nat} (h:vJ L CN NR n) (hs:s<n) (hc:CN.getD s 0≠0):1≤(a4 (NR.take n)).getD s 0:=by
  rw[zm,fJ hs];have:=h.I.z s hs;omega
theorem K5 {L:Nat} {CN:List Nat} {NR:List Int} {n:Nat} (h:vJ L CN NR n) (hn:1≤n) (hc:CN.getD (n-1) 0≠0):(NR.take n).getD (n-1) 0≠0:=by
  rw[fJ Om];exact fun e=>hc ((h.I.z _ Om).1 e)
theorem ajG {L:Nat} (h:L=5∨L=6):∃sz,Lz L sz:=by
  rcases h with rfl|rfl
  · exact⟨32,.inl ⟨rfl,rfl⟩⟩
  · exact⟨64,.inr ⟨rfl,rfl⟩⟩
def cZ (Z:List Nat) (i:Nat):Nat:=Z.getD i 0%4294967296
def pZ (Z:List Nat) (i:Nat):Nat:=Z.getD i 0/4294967296%65536
def sZ (Z:List Nat) (i:Nat):Nat:=Z.getD i 0/281474976710656%256
def bZ (Z:List Nat) (i:Nat):Nat:=Z.getD i 0/72057594037927936%256
def CH (x c:Nat):Nat:=x/4294967296*4294967296+c
def Au (x p:Nat):Nat:=x%4294967296+p*4294967296+x/281474976710656*281474976710656
def nY (x n:Nat):Nat:=x%72057594037927936+n*72057594037927936
def WV (c s:Nat):Nat:=c+s*281474976710656
theorem OP {x k:Nat} (hk:k≤64) (h:x<2^64):x&&&((2^(64-k)-1)*2^k)=x/2^k*2^k:=by
  apply Nat.eq_of_testBit_eq;intro i;rw[Nat.testBit_and,Nat.testBit_mul_two_pow,Nat.testBit_mul_two_pow,Nat.testBit_two_pow_sub_one,Nat.testBit_div_two_pow];by_cases h1:k≤i
  · rw[show i-k+k=i by omega];by_cases h2:i<64
    · grind
    · have:x.testBit i=false:=Nat.testBit_lt_two_pow (Nat.lt_of_lt_of_le h (Nat.pow_le_pow_right Om Om));simp[this]
  · simp[h1]
theorem Y' {a b k:Nat} (h:b<2^k):a*2^k|||b=a*2^k+b:=by
  grind [jT]
theorem ack {x c:Nat} (h:x<18446744073709551616) (hc:c<4294967296):x&&&18446744069414584320|||c=CH x c:=by
  have e:x&&&18446744069414584320=x/2^32*2^32:=OP (k:=32) Od h;rw[e,Y' (by simpa using hc)];rfl
theorem acm {x n:Nat} (hn:n<256):x&&&72057594037927935|||n*2^56%18446744073709551616=nY x n:=by
  have e:x&&&72057594037927935=x%2^56:=Nat.and_two_pow_sub_one_eq_mod x 56;rw[e,Nat.mod_eq_of_lt (a:=n*2^56) Om,jT (Nat.mod_lt _ Od)];rfl
theorem acn {c s:Nat} (hc:c<4294967296) (hs:s<256):c|||s*2^48%18446744073709551616=WV c s:=by
  rw[Nat.mod_eq_of_lt Om,jT Om];rfl
theorem aco {x p:Nat} (h:x<18446744073709551616) (hp:p<65536):x&&&18446462603027808255|||p*2^32%18446744073709551616=Au x p:=by
  have e0:(18446462603027808255:Nat)=18446462598732840960|||4294967295:=Od;have e1:x&&&18446462598732840960=x/2^48*2^48:=OP (k:=48) Od h;have e2:x&&&4294967295=x%2^32:=Nat.and_two_pow_sub_one_eq_mod x 32;rw[e0,Nat.and_or_distrib_left,e1,e2,Nat.mod_eq_of_lt (a:=p*2^32) Om,Nat.or_assoc,jT (Nat.mod_lt _ Od),Y' Om];grind [Au]
theorem BF {x c:Nat} (h:x<18446744073709551616) (hc:c<4294967296):CH x c<18446744073709551616:=by unfold CH;omega
theorem lM {x n:Nat} (hn:n<256):nY x n<18446744073709551616:=by unfold nY;omega
theorem BG {x p:Nat} (h:x<18446744073709551616) (hp:p<65536):Au x p<18446744073709551616:=by unfold Au;omega
theorem acp {c s:Nat} (hc:c<4294967296) (hs:s<256):WV c s<18446744073709551616:=by unfold WV;omega
def fp (Z:List Nat):Prop:=∀i,Z.getD i 0<18446744073709551616
theorem fp.set {Z:List Nat} (h:fp Z) {i v:Nat} (hv:v<18446744073709551616):fp (Z.set i v):=fun j=>by
  rcases Nat.lt_or_ge i Z.length with hi|hi
  · rw[aS hi];split
    · exact hv
    · exact h j
  · rw[List.set_eq_of_length_le hi];exact h j
theorem fp.zero (n:Nat):fp (List.replicate n 0):=fun i=>by
  grind
section
variable {Z:List Nat} {i j c p n s x:Nat}
theorem q6 {f:Nat→Nat} {v:Nat} (hi:i<Z.length):f ((Z.set i v).getD j 0)=if i=j then f v else f (Z.getD j 0):=by
  grind
theorem Gv (hi:i<Z.length) (hc:c<4294967296):cZ (Z.set i (CH (Z.getD i 0) c)) j=if i=j then c else cZ Z j:=by
  unfold cZ;rw[q6 (f:=fun x=>x%4294967296) hi];split
  · grind [CH]
  · rfl
theorem ajH (hi:i<Z.length) (hc:c<4294967296):pZ (Z.set i (CH (Z.getD i 0) c)) j=pZ Z j:=by
  unfold pZ;rw[q6 (f:=fun x=>x/4294967296%65536) hi];split
  · (simp_all [CH];omega)
  · rfl
theorem ajI (hi:i<Z.length) (hc:c<4294967296):sZ (Z.set i (CH (Z.getD i 0) c)) j=sZ Z j:=by
  unfold sZ;rw[q6 (f:=fun x=>x/281474976710656%256) hi];split
  · (simp_all [CH];omega)
  · rfl
theorem asO (hi:i<Z.length) (hp:p<65536):cZ (Z.set i (Au (Z.getD i 0) p)) j=cZ Z j:=by
  unfold cZ;rw[q6 (f:=fun x=>x%4294967296) hi];split
  · grind [Au]
  · rfl
theorem asP (hi:i<Z.length) (hp:p<65536):pZ (Z.set i (Au (Z.getD i 0) p)) j=if i=j then p else pZ Z j:=by
  unfold pZ;rw[q6 (f:=fun x=>x/4294967296%65536) hi];split
  · unfold Au;omega
  · rfl
theorem asQ (hi:i<Z.length) (hp:p<65536):sZ (Z.set i (Au (Z.getD i 0) p)) j=sZ Z j:=by
  unfold sZ;rw[q6 (f:=fun x=>x/281474976710656%256) hi];split
  · (simp_all [Au];omega)
  · rfl
theorem ajJ (hi:i<Z.length) (hn:n<256):cZ (Z.set i (nY (Z.getD i 0) n)) j=cZ Z j:=by
  unfold cZ;rw[q6 (f:=fun x=>x%4294967296) hi];split
  · grind [nY]
  · rfl
theorem asR (hi:i<Z.length) (hn:n<256):pZ (Z.set i (nY (Z.getD i 0) n)) j=pZ Z j:=by
  unfold pZ;rw[q6 (f:=fun x=>x/4294967296%65536) hi];split
  · (simp_all [nY];omega)
  · rfl
theorem ajK (hi:i<Z.length) (hn:n<256):sZ (Z.set i (nY (Z.getD i 0) n)) j=sZ Z j:=by
  unfold sZ;rw[q6 (f:=fun x=>x/281474976710656%256) hi];split
  · (simp_all [nY];omega)
  · rfl
theorem Gw (hi:i<Z.length) (hn:n<256):bZ (Z.set i (nY (Z.getD i 0) n)) j=if i=j then n else bZ Z j:=by
  unfold bZ;rw[q6 (f:=fun x=>x/72057594037927936%256) hi];split
  · grind [nY]
  · rfl
end
theorem ajL (Z:List Nat) (i:Nat):sZ Z i<256:=Nat.mod_lt _ Od
theorem ajM (Z:List Nat) (i:Nat):bZ Z i<256:=Nat.mod_lt _ Od
end Go.Proofs.YtekcchgffhphbaaGreatDoor
