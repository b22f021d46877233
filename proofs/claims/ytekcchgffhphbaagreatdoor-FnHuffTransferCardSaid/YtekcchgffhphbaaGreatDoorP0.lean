/- The walk's own engine. -/
import Derived.Still
import Derived.KernelRfl
import Derived.OrdersHeld
import Derived.Tactics
import Derived.Below
import Derived.IntWalk
import Derived.ArgAppend
import Derived.Laws.OwnMore
set_option linter.unusedVariables false
set_option linter.unusedSimpArgs false
set_option linter.unnecessarySimpa false
namespace Go.Proofs.YtekcchgffhphbaaGreatDoor
theorem Om {p:Prop} (h:p:=by omega):p:=h
theorem Oa {p:Prop} (h:p:=by assumption):p:=h
theorem Od {p:Prop} (h:p:=by decide):p:=h
theorem Oy {p:Prop} (h:p:=by first|omega|(simp;omega)|simp):p:=h
theorem Oz {p:Prop} (h:p:=by simp;omega):p:=h
theorem Ou {p:Prop} (h:p:=by first|omega|(simp;omega)):p:=h
theorem Ow {p:Prop} (h:p:=by first|rfl|(simp;omega)|simp_all):p:=h
theorem Oi {p:Prop} (h:p:=by simp):p:=h
theorem Oj {p:Prop} (h:p:=by first|omega|(rw[List.length_set];omega)|(simp;omega)|simp):p:=h
theorem Ok {p:Prop} (h:p:=by first|omega|(rw[List.length_set];omega)|(simp;omega)):p:=h
theorem Ox {p:Prop} (h:p:=by first|rfl|assumption|(simp;omega)|simp_all):p:=h
theorem Or {p:Prop} (h:p:=by first|omega|decide):p:=h
theorem Kr {p:Prop} (h:p:=by kernel_rfl):p:=h
theorem Oq {a b c d:Prop} (h1:a:=by first|omega|simp) (h2:b:=by first|omega|(simp;omega)) (h3:c:=by first|omega|(simp;omega)) (h4:d:=by first|rfl|omega|(simp;omega)|simp):a∧b∧c∧d:=⟨h1,h2,h3,h4⟩
structure au where
  b:Nat
  o:Nat
  cs:List Value
  sh:Option (TypeId × Nat):=none
def au.has (s:au) (b j:Nat):Prop:=s.b=b∧s.o≤j∧j<s.o+s.cs.length
def au.oz (s:au) (w:World):Prop:=
  (∀j v,s.cs[j]? =some v→w.cell? ⟨s.b,s.o+j,none⟩=some v)∧
  (∀j,j<s.cs.length→w.frozen? ⟨s.b,s.o+j,none⟩=false)∧
  (∀x,s.sh=some x→w.shape? s.b=some x)
def au.apart (s t:au):Prop:=∀b j:Nat,s.has b j→¬t.has b j
theorem au.apart.symm {s t:au} (h:s.apart t):t.apart s:=fun b j h1 h2=>h b j h2 h1
structure St (l r:List au) (w:World):Prop where
  hl:∀s ∈ l,s.oz w
  hr:∀s ∈ r,s.oz w
  pw:l.Pairwise au.apart
  lr:∀s ∈ l,∀t ∈ r,s.apart t
structure fH (l:List au) (w w':World):Prop where
  os:w'.os=w.os
  tape:w'.tape=w.tape
  output:w'.output=w.output
  size:w.heap.size≤w'.heap.size
  cells:∀(b:Nat) (c:Array Value) (T:TypeId) (f:Nat × Nat),w.heap[b]? =some (.cells c T f)→∃c',w'.heap[b]? =some (.cells c' T f)∧c'.size=c.size∧∀j:Nat,(∀s ∈ l,¬s.has b j)→c'[j]? =c[j]?
  other:∀(b:Nat) (o:Obj),w.heap[b]? =some o→(∀c T f,o≠Obj.cells c T f)→w'.heap[b]? =some o
theorem fH.refl (l:List au) (w:World):fH l w w:=
  ⟨rfl,rfl,rfl,Nat.le_refl _,fun _ c _ _ h=>⟨c,h,rfl,fun _ _=>rfl⟩,fun _ _ h _=>h⟩
theorem fH.trans' {l l2:List au} {w w1 w2:World} (h:fH l w w1) (k:fH l2 w1 w2)
    (hl:∀s ∈ l2,∀b j,s.has b j→(∃t ∈ l,t.has b j)∨w.heap.size≤b):fH l w w2:=by
  refine⟨k.os.trans h.os,k.tape.trans h.tape,k.output.trans h.output,Nat.le_trans h.size k.size,?_,?_⟩
  · intro b c T f hb;obtain⟨c1,h1,Bm,ld⟩:=h.cells b c T f hb;obtain⟨c2,h2,Ge,Gf⟩:=k.cells b c1 T f h1;grind
  · intro b o hb ho;exact k.other b o (h.other b o hb ho) ho
theorem fH.alloc (l:List au) (w:World) (o:Obj):fH l w (w.alloc o):=by
  have key:∀b x,w.heap[b]? =some x→(w.alloc o).heap[b]? =some x:=fun b x hb=>by
    have eV:b<w.heap.size:=(Array.getElem?_eq_some_iff.1 hb).1;show(w.heap.push o)[b]? =_;grind
  exact⟨rfl,rfl,rfl,Oi,fun b c T f h=>⟨c,key b _ h,rfl,fun _ _=>rfl⟩,fun b x h _=>key b x h⟩
theorem fH.setCell {l:List au} (w:World) {b j:Nat} (v:Value) (hs:∃s ∈ l,s.has b j):fH l w (w.setCell ⟨b,j,none⟩ v):=by
  refine⟨rfl,rfl,rfl,Oi,?_,?_⟩
  · intro b' c T f hb;by_cases VQ:b=b'
    · subst VQ;refine⟨c.setIfInBounds j v,by simp[World.setCell,Array.getElem?_modify,hb],Oi,fun i hi=>?_⟩;grind
    · exact⟨c,by simp[World.setCell,Array.getElem?_modify,hb,VQ],rfl,fun _ _=>rfl⟩
  · intro b' o hb ho;by_cases VQ:b=b'
    · subst VQ;cases o<;>first|exact(ho _ _ _ rfl).elim|simp[World.setCell,Array.getElem?_modify,hb]
    · simp[World.setCell,Array.getElem?_modify,hb,VQ]
theorem fH.cell {l:List au} {w w':World} (h:fH l w w') {b j:Nat} {v:Value} (hj:∀s ∈ l,¬s.has b j) (hc:w.cell? ⟨b,j,none⟩=some v):w'.cell? ⟨b,j,none⟩=some v:=by
  unfold World.cell? at hc ⊢;cases hb:w.heap[b]? with
  |none=>simp[hb] at hc
  |some o=>
    cases o with
    |cells c T f=>
      obtain⟨c',h',_,hcc⟩:=h.cells b c T f hb;grind
    |_=>simp[hb] at hc
theorem World.Wp {w:World} {b j:Nat} {v:Value} (h:w.cell? ⟨b,j,none⟩=some v):b<w.heap.size:=World.block_lt_of_cell? w _ h
theorem fH.frozen {l:List au} {w w':World} (h:fH l w w') {b j:Nat} (hb:b<w.heap.size):w'.frozen? ⟨b,j,none⟩=w.frozen? ⟨b,j,none⟩:=by
  have Lc:w.heap[b]? =some w.heap[b]:=Array.getElem?_eq_getElem hb;unfold World.frozen?;cases ho:w.heap[b] with
  |cells c T f=>
    rw[ho] at Lc;obtain⟨c',h',_,_⟩:=h.cells b c T f Lc;simp[Lc,h']
  |_=>rw[ho] at Lc;have:=h.other b _ Lc Oi;simp[Lc,this]
theorem fH.shape {l:List au} {w w':World} (h:fH l w w') {b:Nat} {x:TypeId × Nat} (hx:w.shape? b=some x):w'.shape? b=some x:=by
  unfold World.shape? at hx ⊢;cases hb:w.heap[b]? with
  |none=>simp[hb] at hx
  |some o=>
    cases o with
    |cells c T f=>
      obtain⟨c',h',hs,_⟩:=h.cells b c T f hb;grind
    |_=>simp[hb] at hx
theorem au.oz.lt {w:World} {s:au} (hs:s.oz w) {b j:Nat} (h:s.has b j):b<w.heap.size:=by
  obtain⟨rfl,h1,h2⟩:=h;exact World.Wp (hs.1 (j-s.o) (s.cs[j-s.o]' Om) Oi)
theorem au.oz.iG {l:List au} {w w':World} {s:au} (hs:s.oz w) (h:fH l w w') (ha:∀t ∈ l,t.apart s):s.oz w':=by
  refine⟨fun j v hj=>?_,fun j hj=>?_,fun x hx=>h.shape (hs.2.2 x hx)⟩
  · have hlen:j<s.cs.length:=by
      grind
    exact h.cell (fun t ht hh=>ha t ht s.b (s.o+j) hh ⟨rfl,Om,Om⟩) (hs.1 j v hj)
  · have eV:s.b<w.heap.size:=hs.lt ⟨rfl,Nat.le_add_right s.o j,Om⟩;exact(h.frozen eV).trans (hs.2.1 j hj)
section
variable {P:Program} {ops:Array Oper} {Q:Exit→Act→World→Prop} {md:Region.Mode} {E:Nat→Bool}
def Dj (P:Program) (md:Region.Mode) (ops:Array Oper) (E:Nat→Bool) (Q:Exit→Act→World→Prop):Nat→Array Bool→Act→World→Prop
  |0,listed,a,w=>Region.ready md ops listed=[]∧Q .normal a w
  |fuel+1,listed,a,w=>
    (Region.ready md ops listed=[]→Q .normal a w)∧
    ∀i ∈ Region.ready md ops listed,
      if E i then wpOp P ops Q i (Dj P md ops E Q fuel (listed.setIfInBounds i true)) a w
      else stOp P ops w i (fun a'=>Dj P md ops E Q fuel (listed.setIfInBounds i true) a' w) a
theorem rH:∀(fuel:Nat) (listed:Array Bool) (a:Act) (w:World),Dj P md ops E Q fuel listed a w→wpAny P md ops Q fuel listed a w
  |0,_,_,_,h=>h
  |fuel+1,listed,a,w,h=>⟨h.1,fun i hi=>by
      have h2:=h.2 i hi;by_cases hE:E i=true
      · rw[if_pos hE] at h2;exact wpOp_mono (fun a' w' h'=>rH fuel _ a' w' h') h2
      · rw[if_neg hE] at h2;exact wpOp_of_stOp (fun a' h'=>rH fuel _ a' w h') h2⟩
structure NB (md:Region.Mode) (ops:Array Oper) (listed:Array Bool) (i:Nat) (oi:Oper) (bh:Nat→Prop):Prop where
  un:∀j,j<ops.size→bh j→listed.getD j true=false
  chain:∀j oj,ops[j]? =some oj→bh j→j≠i→∃e ∈ oj.after,Region.binds md e=true∧bh e.on∧e.on<ops.size
  apart:∀j oj,ops[j]? =some oj→listed.getD j true=false→¬bh j→oi.apart ops oj=true
theorem wu {listed:Array Bool} {k:Nat} (h1:listed.getD k false=true) (h2:listed.getD k true=false):False:=by
  grind
theorem NB.notReady {listed:Array Bool} {i:Nat} {oi:Oper} {bh:Nat→Prop} (h:NB md ops listed i oi bh) {j:Nat} (hj:j ∈ Region.ready md ops listed) (wv:j≠i):¬bh j:=by
  intro hb;obtain⟨zh,oj,Bn,qX⟩:=mem_ready.1 hj;obtain⟨e,he,hbi,hbe,eV⟩:=h.chain j oj Bn hb wv;exact wu (qX e he hbi) (h.un e.on eV hbe)
theorem NB.put {listed:Array Bool} {i:Nat} {oi:Oper} {bh:Nat→Prop} (h:NB md ops listed i oi bh) {j:Nat} (hb:¬bh j) (zh:listed.getD j true=false):NB md ops (listed.setIfInBounds j true) i oi bh:=by
  refine⟨fun k hk hbk=>?_,h.chain,fun k ok hk hl hbk=>?_⟩
  · by_cases hjk:j=k
    · grind
    · rw[getD_set_ne true hjk];exact h.un k hk hbk
  · by_cases hjk:j=k
    · simp_all
    · rw[getD_set_ne true hjk] at hl;exact h.apart k ok hk hl hbk
theorem Dk {i:Nat} {oi:Oper} {v:Value} {bh:Nat→Prop} (hi:ops[i]? =some oi) (oO:∀(j:Nat) (o:Oper) cs b,ops[j]? =some o→o.op≠ .select cs b) (hEi:E i=false) (aCs:bh i):
    ∀(fuel:Nat) (listed:Array Bool) (a:Act) (w:World),NB md ops listed i oi bh→(∀j,j<ops.size→listed.getD j true=false→E j=true→bh j)→
      i ∈ Region.ready md ops listed→YieldsAt P ops w oi v a→
      Dj P md ops E Q fuel (listed.setIfInBounds i true) (a.put oi.dst v) w→Dj P md ops E Q (fuel+1) listed a w:=by
  intro fuel;induction fuel with
  |zero=>
    intro listed a w qY hE _ hy H;rename_i hr;refine⟨fun h=>(by rw[h] at hr;cases hr),fun j hj=>?_⟩;by_cases Bo:j=i
    · subst Bo;rw[if_neg (by rw[hEi];simp)];exact hy.stOp hi H
    · have:=ready_mono hj Bo;rw[H.1] at this;cases this
  |succ fuel ih=>
    intro listed a w qY asX hr hy H;refine⟨fun h=>(by rw[h] at hr;cases hr),fun j hj=>?_⟩;by_cases Bo:j=i
    · subst Bo;rw[if_neg (by rw[hEi];simp)];exact hy.stOp hi H
    · have h1:=H.2 j (ready_mono hj Bo);obtain⟨Gg,oj,Bn,qX⟩:=mem_ready.1 hj;have asY:=(Array.getElem?_eq_some_iff.1 Bn).1;have hbj:=qY.notReady hj Bo;have hEj:¬E j=true:=fun hE=>hbj (asX j asY Gg hE)
      rw[if_neg hEj] at h1 ⊢;have h2:=stOp_put Bn (qY.apart j oj Bn Gg hbj) (fun cs b=>oO i oi cs b hi) (fun cs b=>oO j oj cs b Bn) hy h1;refine stOp_mono (fun a' h3=>ih (listed.setIfInBounds j true) a' w (qY.put hbj Gg) (fun k hk hl hE=>?_) (ready_mono hr (Ne.symm Bo)) h3.1 ?_) h2
      · by_cases hjk:j=k
        · grind
        · simp_all
      · rw[Array.setIfInBounds_comm _ _ Bo];exact h3.2
theorem Dl {i:Nat} {oi:Oper} {v:Value} {bh:Nat→Prop} (hi:ops[i]? =some oi) (oO:∀(j:Nat) (o:Oper) cs b,ops[j]? =some o→o.op≠ .select cs b) (hEi:E i=false)
    (hQ:∀c a w,Q (.panic c) (a.put oi.dst v) w→Q (.panic c) a w):
    ∀(fuel:Nat) (listed:Array Bool) (a:Act) (w:World),NB md ops listed i oi bh→
      i ∈ Region.ready md ops listed→Yields P ops oi v a→
      Dj P md ops E Q fuel (listed.setIfInBounds i true) (a.put oi.dst v) w→Dj P md ops E Q (fuel+1) listed a w:=by
  have atY:∀{a:Act} {w:World},Yields P ops oi v a→YieldsAt P ops w oi v a:=fun h=>h.imp (fun ⟨h1,h2⟩=>⟨h1,.inl (h2 _)⟩) id
  intro fuel;induction fuel with
  |zero=>
    intro listed a w _ hr hy H;refine⟨fun h=>(by rw[h] at hr;cases hr),fun j hj=>?_⟩;by_cases Bo:j=i
    · subst Bo;rw[if_neg (by rw[hEi];simp)];exact(atY hy).stOp hi H
    · have:=ready_mono hj Bo;rw[H.1] at this;cases this
  |succ fuel ih=>
    intro listed a w qY hr hy H;refine⟨fun h=>(by rw[h] at hr;cases hr),fun j hj=>?_⟩;by_cases Bo:j=i
    · subst Bo;rw[if_neg (by rw[hEi];simp)];exact(atY hy).stOp hi H
    · have h1:=H.2 j (ready_mono hj Bo);obtain⟨Gg,oj,Bn,qX⟩:=mem_ready.1 hj;have hbj:=qY.notReady hj Bo;have wx:=qY.apart j oj Bn Gg hbj;by_cases hE:E j=true
      · rw[if_pos hE] at h1 ⊢;have h2:=wpOp_put Bn wx (fun cs b=>oO i oi cs b hi) (fun cs b=>oO j oj cs b Bn) hQ hy h1;refine wpOp_mono (fun a' w' h3=>ih (listed.setIfInBounds j true) a' w' (qY.put hbj Gg) (ready_mono hr (Ne.symm Bo)) h3.1 ?_) h2;rw[Array.setIfInBounds_comm _ _ Bo];exact h3.2
      · rw[if_neg hE] at h1 ⊢;have h2:=stOp_put Bn wx (fun cs b=>oO i oi cs b hi) (fun cs b=>oO j oj cs b Bn) (atY hy) h1;obtain⟨hp1,hp2,Dm⟩:=Oper.apart_spec wx;obtain⟨u,hu,h5⟩:=yieldsAt_of_stOp Bn h2;refine hu.stOp Bn (ih (listed.setIfInBounds j true) _ w (qY.put hbj Gg) (ready_mono hr (Ne.symm Bo)) ?_ ?_)
        · exact hy.of_same (execOp_put oi (fun cs b=>oO i oi cs b hi) a oj.dst u Dm) (wanted_put oi a oj.dst u Dm)
        · rw[Array.setIfInBounds_comm _ _ Bo];exact h5.2
theorem M8 {i:Nat} {fuel:Nat} {listed:Array Bool} {a:Act} {w:World} (hi:i ∈ Region.ready md ops listed) (hr:∀j ∈ Region.ready md ops listed,j=i)
    (hE:E i=true) (h:wpOp P ops Q i (Dj P md ops E Q fuel (listed.setIfInBounds i true)) a w):Dj P md ops E Q (fuel+1) listed a w:=
  ⟨fun h0=>(by rw[h0] at hi;cases hi),fun j hj=>(by
    grind)⟩
theorem xm {listed:Array Bool} {a:Act} {w:World} (hr:Region.ready md ops listed=[]) (h:Q .normal a w):
    ∀fuel,Dj P md ops E Q fuel listed a w
  |0=>⟨hr,h⟩
  |_+1=>⟨fun _=>h,by rw[hr];simp⟩
theorem vE {id:Nat} {a:Act} {w:World} (hm:P.follows .mixedOrders=true)
    (h:Dj P .any ops E Q ops.size (Array.replicate ops.size false) a w.drew):(Code.region id ops true).wp P Q a w:=
  wp_region_any hm (rH _ _ _ _ h)
end
def nth:Nat→List Oper→Option Oper
  |_,[]=>none
  |0,o::_=>some o
  |n+1,_::L=>nth n L
theorem M9:∀(i:Nat) (L:List Oper),nth i L=L[i]?
  |_,[]=>by simp[nth]
  |0,o::_=>by simp[nth]
  |n+1,_::L=>by simp[nth,M9 n L]
theorem jd {i:Nat} {L:List Oper} {o:Oper} (h:nth i L=some o):L.toArray[i]? =some o:=by rw[M9] at h;simpa using h
def nthN:Nat→List Nat→Nat
  |_,[]=>0
  |0,o::_=>o
  |n+1,_::L=>nthN n L
def maskOf (acc:List Nat):List Edge→Nat
  |[]=>0
  |e::es=>if Region.binds .any e && Nat.blt e.on acc.length then Nat.lor (Nat.lor (Nat.pow 2 e.on) (nthN e.on acc)) (maskOf acc es) else maskOf acc es
def befs:List Nat→List Oper→List Nat
  |acc,[]=>acc
  |acc,o::os=>befs (acc++[maskOf acc o.after.toList]) os
def backB:Nat→List Oper→Bool
  |_,[]=>true
  |n,o::os=>(o.after.toList.all fun e=> !Region.binds .any e||Nat.blt e.on n) && backB (n+1) os
def apartB (ops:Array Oper) (b:List Nat):Nat→List Oper→Nat→Oper→Bool
  |_,[],_,_=>true
  |j,o::os,i,oi=>(Nat.testBit (nthN j b) i||Nat.testBit (nthN i b) j||j==i||oi.apart ops o) && apartB ops b (j+1) os i oi
def iw (ops:Array Oper) (b:List Nat) (L:List Oper):Nat→List Oper→Bool
  |_,[]=>true
  |i,o::os=>apartB ops b 0 L i o && iw ops b L (i+1) os
inductive Kd where
  |y|r|e
  deriving DecidableEq
def oQ (m d:Nat):Bool:=Nat.beq (Nat.land m d) m
def allFrom (p:Nat→Bool):Nat→Nat→Bool
  |_,0=>true
  |j,n+1=>p j && allFrom p (j+1) n
theorem je {p:Nat→Bool}:∀(n j:Nat),allFrom p j n=true→∀k,j≤k→k<j+n→p k=true
  |0,_,_,k,h1,h2=>by omega
  |n+1,j,h,k,h1,h2=>by
    simp only[allFrom,Bool.and_eq_true] at h;by_cases e:k=j
    · grind
    · exact je n (j+1) h.2 k Om Om
def stepsB (n:Nat) (b:List Nat) (E:Nat):List (Nat × Kd)→Nat→Bool
  |[],d=>Nat.beq d (Nat.pow 2 n-1)
  |(i,k)::rest,d=>Nat.blt i n && !Nat.testBit d i && oQ (nthN i b) d &&
      (match k with
       | .y=> !Nat.testBit E i
       | .r=> !Nat.testBit E i && allFrom (fun j=>Nat.testBit d j|| !Nat.testBit E j||Nat.testBit (nthN j b) i) 0 n
       | .e=>Nat.testBit E i && allFrom (fun j=>Nat.testBit d j||j==i||Nat.testBit (nthN j b) i) 0 n) && stepsB n b E rest (Nat.lor d (Nat.pow 2 i))
def JJ (L:List Oper) (E:Nat) (order:List (Nat × Kd)):Bool:=
  Region.noSelect L.toArray && Nat.ble order.length L.length && backB 0 L && iw L.toArray (befs [] L) L 0 L && stepsB L.length (befs [] L) E order 0
theorem Bp:∀(i:Nat) (L:List Nat),nthN i L=L.getD i 0
  |_,[]=>by simp[nthN]
  |0,o::_=>by simp[nthN]
  |n+1,_::L=>by simp[nthN,Bp n L]
theorem rI (acc:List Nat) (i:Nat):∀(es:List Edge),(maskOf acc es).testBit i=true→∃e ∈ es,Region.binds .any e=true∧e.on<acc.length∧(e.on=i∨(nthN e.on acc).testBit i=true)
  |[],h=>by simp[maskOf] at h
  |e::es,h=>by
    simp only[maskOf] at h;split at h
    · rename_i hc;rw[Bool.and_eq_true] at hc;have h':((2^e.on|||nthN e.on acc)|||maskOf acc es).testBit i=true:=h;rw[Nat.testBit_or,Nat.testBit_or,Bool.or_eq_true,Bool.or_eq_true] at h';rcases h' with (h1|h1)|h1
      · rw[Nat.testBit_two_pow] at h1;simp_all
      · simp_all
      · simp_all [rI]
    · simp_all [rI]
theorem rJ (acc:List Nat):∀(es:List Edge) (e:Edge),e ∈ es→Region.binds .any e=true→e.on<acc.length→(maskOf acc es).testBit e.on=true
  |[],e,h,_,_=>by cases h
  |e0::es,e,h,hb,hl=>by
    simp only[maskOf];split
    · show((2^e0.on|||nthN e0.on acc)|||maskOf acc es).testBit e.on=true;rw[Nat.testBit_or,Nat.testBit_or];rcases List.mem_cons.1 h with h'|h'
      · grind
      · simp_all [rJ]
    · rename_i hc;rcases List.mem_cons.1 h with h'|h'
      · simp_all
      · simp_all [rJ]
theorem xn:∀(L:List Oper) (acc:List Nat),(befs acc L).length=acc.length+L.length
  |[],acc=>by simp[befs]
  |o::os,acc=>by simp only[befs,xn os,List.length_append,List.length_cons,List.length_nil];omega
theorem xp:∀(L:List Oper) (acc:List Nat) (k:Nat),k<acc.length→(befs acc L)[k]? =acc[k]?
  |[],acc,k,h=>by simp[befs]
  |o::os,acc,k,h=>by
    simp only[befs];rw[xp os _ k Oz,List.getElem?_append_left h]
theorem Bq:∀(L:List Oper) (acc:List Nat) (j:Nat) (o:Oper),L[j]? =some o→(befs acc L)[acc.length+j]? =some (maskOf ((befs acc L).take (acc.length+j)) o.after.toList)
  |[],acc,j,o,h=>by simp at h
  |o0::os,acc,0,o,h=>by
    simp at h;subst h;simp only[befs,Nat.add_zero];rw[xp os _ acc.length Oi];rw[List.getElem?_append_right (Nat.le_refl _)];simp only[Nat.sub_self,List.getElem?_cons_zero,Option.some.injEq];congr 1;apply List.ext_getElem?;grind [xp]
  |o0::os,acc,j+1,o,h=>by
    simp only[befs];have:=Bq os (acc++[maskOf acc o0.after.toList]) j o (by simpa using h);grind
theorem uL {L:List Oper} {j i:Nat} {o:Oper} (hj:L[j]? =some o) (h:(nthN j (befs [] L)).testBit i=true):∃e ∈ o.after,Region.binds .any e=true∧e.on<j∧(e.on=i∨(nthN e.on (befs [] L)).testBit i=true):=by
  have h1:=Bq L [] j o hj;grind [Bp,rI,xn]
theorem xq {L:List Oper} {j:Nat} {o:Oper} (hj:L[j]? =some o) {e:Edge} (he:e ∈ o.after) (hb:Region.binds .any e=true) (hl:e.on<j):(nthN j (befs [] L)).testBit e.on=true:=by
  have h1:=Bq L [] j o hj;grind [Bp,rJ,xn]
theorem rK:∀(L:List Oper) (n:Nat),backB n L=true→∀(j:Nat) (o:Oper),L[j]? =some o→∀e ∈ o.after,Region.binds .any e=true→e.on<n+j
  |[],n,_,j,o,hj,_,_,_=>by simp at hj
  |o0::os,n,h,0,o,hj,e,he,hb=>by
    simp at hj;subst hj;simp only[backB,Bool.and_eq_true,List.all_eq_true] at h;have:=h.1 e (by simpa using he);simp_all
  |o0::os,n,h,j+1,o,hj,e,he,hb=>by
    simp only[backB,Bool.and_eq_true] at h;have:=rK os (n+1) h.2 j o (by simpa using hj) e he hb;omega
theorem oR {ops:Array Oper} {b:List Nat} {i:Nat} {oi:Oper}:∀(L:List Oper) (n:Nat),apartB ops b n L i oi=true→∀(j:Nat) (o:Oper),L[j]? =some o→(nthN (n+j) b).testBit i=true∨(nthN i b).testBit (n+j)=true∨n+j=i∨oi.apart ops o=true
  |[],n,_,j,o,hj=>by simp at hj
  |o0::os,n,h,0,o,hj=>by
    grind [apartB]
  |o0::os,n,h,j+1,o,hj=>by
    simp only[apartB,Bool.and_eq_true] at h;have:=oR os (n+1) h.2 j o (by simpa using hj);grind
theorem lT {ops:Array Oper} {b:List Nat} {L0:List Oper}:∀(L:List Oper) (n:Nat),iw ops b L0 n L=true→∀(i:Nat) (o:Oper),L[i]? =some o→apartB ops b 0 L0 (n+i) o=true
  |[],n,_,j,o,hj=>by simp at hj
  |o0::os,n,h,0,o,hj=>by
    grind [iw]
  |o0::os,n,h,i+1,o,hj=>by
    simp only[iw,Bool.and_eq_true] at h;have:=lT os (n+1) h.2 i o (by simpa using hj);grind
theorem jV {m d:Nat} (h:oQ m d=true) {i:Nat} (hi:m.testBit i=true):d.testBit i=true:=by
  have h':m&&&d=m:=Nat.eq_of_beq_eq_true h;grind
section
variable {P:Program} {Q:Exit→Act→World→Prop}
def wpP (P:Program) (ops:Array Oper) (Q:Exit→Act→World→Prop):List (Nat × Kd)→Act→World→Prop
  |[],a,w=>Q .normal a w
  |(i,k)::rest,a,w=>match k with
    | .y=>∃o v,ops[i]? =some o∧Yields P ops o v a∧wpP P ops Q rest (a.put o.dst v) w
    | .r=>∃o v,ops[i]? =some o∧YieldsAt P ops w o v a∧wpP P ops Q rest (a.put o.dst v) w
    | .e=>wpOp P ops Q i (wpP P ops Q rest) a w
structure VR (L:List Oper) (d:Nat) (listed:Array Bool):Prop where
  size:listed.size=L.length
  at_:∀j,j<L.length→listed.getD j true=d.testBit j
  closed:∀j,j<L.length→d.testBit j=true→oQ (nthN j (befs [] L)) d=true
theorem VR.put {L:List Oper} {d i:Nat} {listed:Array Bool} (h:VR L d listed) (hi:i<L.length) (hs:oQ (nthN i (befs [] L)) d=true):VR L (Nat.lor d (Nat.pow 2 i)) (listed.setIfInBounds i true):=by
  have hb:∀j,(Nat.lor d (Nat.pow 2 i)).testBit j=(d.testBit j||decide (i=j)):=fun j=>by
    show(d|||2^i).testBit j=_;grind
  have mono:∀m,oQ m d=true→oQ m (Nat.lor d (Nat.pow 2 i))=true:=fun m hm=>by
    have e:m&&&d=m:=Nat.eq_of_beq_eq_true hm;show Nat.beq (m&&&(d|||2^i)) m=true;have e2:m&&&(d|||2^i)=m:=by
      apply Nat.eq_of_testBit_eq;grind
    simp_all
  refine⟨by simp[h.size],fun j hj=>?_,fun j hj hd=>?_⟩
  · rw[hb];by_cases e:i=j
    · simp_all
    · rw[getD_set_ne true e,h.at_ j hj];simp[e]
  · rw[hb,Bool.or_eq_true] at hd;rcases hd with hd|hd
    · exact mono _ (h.closed j hj hd)
    · grind
theorem m9 {L:List Oper} {E:Nat} (oO:Region.noSelect L.toArray=true) (nZ:backB 0 L=true) (wx:iw L.toArray (befs [] L) L 0 L=true)
    (hQ:∀c a w (d:Nat) v,Q (.panic c) (a.put (some d) v) w→Q (.panic c) a w):
    ∀(order:List (Nat × Kd)) (d fuel:Nat) (listed:Array Bool) (a:Act) (w:World),stepsB L.length (befs [] L) E order d=true→VR L d listed→order.length≤fuel→wpP P L.toArray Q order a w→
      Dj P .any L.toArray (fun j=>Nat.testBit E j) Q fuel listed a w
  |[],d,fuel,listed,a,w,hs,hl,_,h=>by
    refine xm ?_ h fuel;have hd:d=2^L.length-1:=Nat.eq_of_beq_eq_true hs;apply List.eq_nil_iff_forall_not_mem.2;intro j hj;obtain⟨zh,o,ho,_⟩:=mem_ready.1 hj;have eV:j<L.length:=by simpa using (Array.getElem?_eq_some_iff.1 ho).1
    rw[hl.at_ j eV,hd,Nat.testBit_two_pow_sub_one] at zh;grind
  |(i,k)::rest,d,fuel,listed,a,w,hs,hl,hf,h=>by
    obtain⟨fuel,rfl⟩:∃f,fuel=f+1:=⟨fuel-1,by simp at hf;omega⟩;simp only[stepsB,Bool.and_eq_true] at hs;obtain⟨⟨⟨⟨Dr,rG⟩,mr⟩,hk⟩,sV⟩:=hs;have eV:i<L.length:=Nat.le_of_ble_eq_true Dr;have uM:d.testBit i=false:=by simpa using rG
    have Wq:L[i]? =some L[i]:=by simp[eV]
    have MC:L.toArray[i]? =some L[i]:=by simpa using Wq
    have VS:=hl.put eV mr;have dir:∀e ∈ L[i].after,Region.binds .any e=true→listed.getD e.on false=true:=fun e he hb=>by
      have h1:=rK L 0 nZ i _ Wq e he hb;rw[Nat.zero_add] at h1;have h2:=jV mr (xq Wq he hb h1);have h3:=hl.at_ e.on Om;rw[h2] at h3;have:e.on<listed.size:=by rw[hl.size];omega
      grind
    have na:i ∈ Region.ready .any L.toArray listed:=mem_ready.2 ⟨by rw[hl.at_ i eV];exact uM,_,MC,dir⟩;have isz:L.toArray.size=L.length:=Oi;have nb:NB .any L.toArray listed i L[i] (fun j=>j=i∨(nthN j (befs [] L)).testBit i=true):=by
      refine⟨fun j hj hb=>?_,fun j oj hj hb wv=>?_,fun j oj hj zh hb=>?_⟩
      · rw[isz] at hj;rw[hl.at_ j hj];rcases hb with rfl|hb
        · exact uM
        · cases hd:d.testBit j with
          |false=>rfl
          |true=>rw[jV (hl.closed j hj hd) hb] at uM;cases uM
      · grind [uL]
      · have M':L[j]? =some oj:=by simpa using hj
        have ZT:j<L.length:=by
          grind
        have h1:=lT L 0 wx i _ Wq;rw[Nat.zero_add] at h1;have h2:=oR L 0 h1 j oj M';simp only[Nat.zero_add] at h2;rcases h2 with h2|h2|h2|h2
        · grind
        · rw[hl.at_ j ZT,jV mr h2] at zh;cases zh
        · omega
        · exact h2
    cases k with
    |y=>
      obtain⟨o,v,ho,hy,hw⟩:=h;have:o=L[i]:=Option.some.inj (ho.symm.trans MC);subst this;have hE:Nat.testBit E i=false:=by simpa using hk
      refine Dl MC (Region.noSelect_spec oO) hE ?_ fuel listed a w nb na hy (m9 oO nZ wx hQ rest _ fuel _ _ w sV VS (by simp at hf;omega) hw);intro c a w hq;cases hd:L[i].dst with
      |none=>rw[hd] at hq;exact hq
      |some d'=>rw[hd] at hq;exact hQ c a w d' v hq
    |r=>
      obtain⟨o,v,ho,hy,hw⟩:=h;have:o=L[i]:=Option.some.inj (ho.symm.trans MC);subst this;rw[Bool.and_eq_true] at hk;have hE:Nat.testBit E i=false:=by simpa using hk.1
      refine Dk MC (Region.noSelect_spec oO) hE (.inl rfl) fuel listed a w nb ?_ na hy (m9 oO nZ wx hQ rest _ fuel _ _ w sV VS (by simp at hf;omega) hw);intro j hj zh hEj;rw[isz] at hj;have h1:=je _ _ hk.2 j Om Om;rw[hl.at_ j hj] at zh;grind
    |e=>
      rw[Bool.and_eq_true] at hk;refine M8 na ?_ hk.1 (wpOp_mono (fun a' w' h'=>m9 oO nZ wx hQ rest _ fuel _ a' w' sV VS (by simp at hf;omega) h') h);intro j hj;refine Classical.byContradiction fun wv=>nb.notReady hj wv ?_
      obtain⟨zh,oj,Bn,_⟩:=mem_ready.1 hj;have ZT:j<L.length:=by simpa using (Array.getElem?_eq_some_iff.1 Bn).1
      have h1:=je _ _ hk.2 j Om Om;rw[hl.at_ j ZT] at zh;grind
theorem Gh {L:List Oper} {id:Nat} (E:Nat) (order:List (Nat × Kd)) (hm:P.follows .mixedOrders=true) (hB:JJ L E order=true)
    (hQ:∀c a w (d:Nat) v,Q (.panic c) (a.put (some d) v) w→Q (.panic c) a w) {a:Act} {w:World} (h:wpP P L.toArray Q order a w.drew):(Code.region id L.toArray true).wp P Q a w:=by
  simp only[JJ,Bool.and_eq_true] at hB;obtain⟨⟨⟨⟨h1,h0⟩,h2⟩,h3⟩,h4⟩:=hB;have Ws:order.length≤L.length:=Nat.le_of_ble_eq_true h0;refine vE (E:=fun j=>Nat.testBit E j) hm ?_;have hl:VR L 0 (Array.replicate L.toArray.size false):=⟨Oi,fun j hj=>by simp[hj],fun j hj hd=>by simp at hd⟩;grind [m9]
end
abbrev aB:=List (Nat × Value)
def look (t:Nat):aB→Option Value
  |[]=>none
  |p::ρ=>bif Nat.beq p.1 t then some p.2 else look t ρ
def ev (ρ:aB):Operand→Option Value
  | .tmp t=>look t ρ
  | .const v=>some v
  | .global g=>some (.pointer (some ⟨g,0,none⟩))
  | .func f=>some (.func (.func f) #[] #[])
def sW (ρ:aB) (a:Act):Prop:=∀t v,look t ρ=some v→a.tmps[t]? =some v
theorem bf {ρ:aB} {a:Act} (h:sW ρ a) {x:Operand} {v:Value} (hx:ev ρ x=some v):a.eval x=v:=by
  cases x with
  |tmp t=>simp[Act.eval,h t v hx]
  |const u=>exact Option.some.inj hx
  |global g=>exact Option.some.inj hx
  |func f=>exact Option.some.inj hx
theorem sW.put {ρ:aB} {a:Act} (h:sW ρ a) {d:Nat} (hd:d<a.tmps.size) (v:Value):sW ((d,v)::ρ) (a.put (some d) v):=by
  intro t u ht;simp only[look,cond_eq_ite] at ht;simp only[Act.put];by_cases e:d=t
  · simp_all
  · have hb:Nat.beq d t=false:=by
      cases hb:Nat.beq d t with
      |false=>rfl
      |true=>exact absurd (Nat.eq_of_beq_eq_true hb) e
    simp[hb] at ht;rw[Array.getElem?_setIfInBounds_ne e];exact h t u ht
def Sub (ρ' ρ:aB):Prop:=match ρ' with
  |[]=>True
  |p::q=>look p.1 ρ=some p.2∧Sub q ρ
theorem Sub.ok {ρ ρ':aB} (h:Sub ρ' ρ) {a:Act} (ha:sW ρ a):sW ρ' a:=by
  induction ρ' with
  |nil=>intro t v ht;simp[look] at ht
  |cons p q ih=>
    intro t v ht;simp only[look,cond_eq_ite] at ht;by_cases e:Nat.beq p.1 t=true
    · have e':p.1=t:=Nat.eq_of_beq_eq_true e;rw[if_pos e] at ht;rw[←e', ←Option.some.inj ht];exact ha _ _ h.1
    · rw[if_neg e] at ht;exact ih h.2 t v ht
structure Kx where
  n:Nat
  l0:List au
  w0:World
def Own (K:Kx) (l:List au):Prop:=∀s ∈ l,∀b j:Nat,s.has b j→(∃t ∈ K.l0,t.has b j)∨K.w0.heap.size≤b
structure At (K:Kx) (ρ:aB) (l r:List au) (a:Act) (w:World):Prop where
  size:a.tmps.size=K.n
  defers:a.defers=[]
  fr:sW ρ a
  keeps:fH K.l0 K.w0 w
  st:St l r w
  own:Own K l
theorem St.drew {l r:List au} {w:World} (h:St l r w):St l r w.drew:=⟨h.hl,h.hr,h.pw,h.lr⟩
theorem At.drew {K:Kx} {ρ:aB} {l r:List au} {a:Act} {w:World} (h:At K ρ l r a w):At K ρ l r a w.drew:=
  ⟨h.size,h.defers,h.fr,⟨h.keeps.os,h.keeps.tape,h.keeps.output,h.keeps.size,h.keeps.cells,h.keeps.other⟩,h.st.drew,h.own⟩
theorem At.put {K:Kx} {ρ:aB} {l r:List au} {a:Act} {w:World} (h:At K ρ l r a w) {d:Nat} (hd:Nat.blt d K.n=true) (v:Value):At K ((d,v)::ρ) l r (a.put (some d) v) w:=
  ⟨by simp[Act.put,h.size],h.defers,h.fr.put (by rw[h.size];exact Nat.le_of_ble_eq_true hd) v,h.keeps,h.st,h.own⟩
theorem At.sub {K:Kx} {ρ ρ':aB} {l r:List au} {a:Act} {w:World} (h:At K ρ l r a w) (hs:Sub ρ' ρ):At K ρ' l r a w:=
  ⟨h.size,h.defers,hs.ok h.fr,h.keeps,h.st,h.own⟩
section
variable (P:Program) (K:Kx) (Q:Exit→Act→World→Prop)
def G (c:Code) (ρ:aB) (l r:List au):Prop:=∀a w,At K ρ l r a w→c.wp P Q a w
def GQ (e:Exit) (ρ:aB) (l r:List au):Prop:=∀a w,At K ρ l r a w→Q e a w
def GL (L rest:List Oper) (ρ:aB) (l r:List au):Prop:=∀a w,At K ρ l r a w→wpList P L.toArray Q rest a w
def GP (L:List Oper) (order:List (Nat × Kd)) (ρ:aB) (l r:List au):Prop:=∀a w,At K ρ l r a w→wpP P L.toArray Q order a w
end
section
variable {P:Program} {K:Kx} {Q:Exit→Act→World→Prop} {ρ:aB} {l r:List au}
theorem G.seq {x y:Code} (h:G P K (Exit.then (y.wp P Q) Q) x ρ l r):G P K Q (.seq x y) ρ l r:=fun a w ha=>wp_seq (h a w ha)
theorem G.block {id:Nat} {c:Code} (h:G P K (Exit.inBlock id Q) c ρ l r):G P K Q (.block id c) ρ l r:=fun a w ha=>wp_block (h a w ha)
theorem G.skip (h:GQ K Q .normal ρ l r):G P K Q .skip ρ l r:=fun a w ha=>wp_skip (h a w ha)
theorem G.ret (h:GQ K Q .ret ρ l r):G P K Q .ret ρ l r:=fun a w ha=>wp_ret (h a w ha)
theorem G.exit {id:Nat} (h:GQ K Q (.exit id) ρ l r):G P K Q (.exit id) ρ l r:=fun a w ha=>wp_exit (h a w ha)
theorem G.cond {c:Operand} {x y:Code} {t:Bool} (hc:ev ρ c=some (.bool t)) (ht:t=true→G P K Q x ρ l r) (hf:t=false→G P K Q y ρ l r):G P K Q (.cond c x y) ρ l r:=
  fun a w ha=>wp_cond_split (bf ha.fr hc) (fun h=>ht h a w ha) (fun h=>hf h a w ha)
theorem G.Na {c:Operand} {x y:Code} {p:Prop} [Decidable p] (hc:ev ρ c=some (.bool (decide p))) (ht:p→G P K Q x ρ l r) (hf:¬p→G P K Q y ρ l r):G P K Q (.cond c x y) ρ l r:=
  G.cond hc (fun h=>ht (of_decide_eq_true h)) (fun h=>hf (of_decide_eq_false h))
theorem G.ajE {c:Operand} {x y:Code} (hc:ev ρ c=some (.bool true)) (h:G P K Q x ρ l r):G P K Q (.cond c x y) ρ l r:=G.cond hc (fun _=>h) (fun e=>by cases e)
theorem G.gJ {c:Operand} {x y:Code} (hc:ev ρ c=some (.bool false)) (h:G P K Q y ρ l r):G P K Q (.cond c x y) ρ l r:=G.cond hc (fun e=>by cases e) (fun _=>h)
theorem G.iH {c:Operand} {x y:Code} {p:Prop} [Decidable p] (hc:ev ρ c=some (.bool (decide p))) (hp:p) (h:G P K Q x ρ l r):G P K Q (.cond c x y) ρ l r:=G.Na hc (fun _=>h) (fun e=>(e hp).elim)
theorem G.eL {c:Operand} {x y:Code} {p:Prop} [Decidable p] (hc:ev ρ c=some (.bool (decide p))) (hp:¬p) (h:G P K Q y ρ l r):G P K Q (.cond c x y) ρ l r:=G.Na hc (fun e=>(hp e).elim) (fun _=>h)
theorem G.region {id:Nat} {L:List Oper} (h:GL P K Q L L ρ l r):G P K Q (.region id L.toArray false) ρ l r:=fun a w ha=>wp_region_lit (h a w ha)
theorem G.asZ {id:Nat} {L:List Oper} (E:Nat) (order:List (Nat × Kd)) (hm:P.follows .mixedOrders=true) (hB:JJ L E order=true) (hQ:∀c a w (d:Nat) v,Q (.panic c) (a.put (some d) v) w→Q (.panic c) a w) (h:GP P K Q L order ρ l r):G P K Q (.region id L.toArray true) ρ l r:=
  fun a w ha=>Gh E order hm hB hQ (h a w.drew ha.drew)
theorem GQ.aW {y:Code} (h:G P K Q y ρ l r):GQ K (Exit.then (y.wp P Q) Q) .normal ρ l r:=h
theorem GQ.de {X:Act→World→Prop} {id:Nat} (h:GQ K Q (.exit id) ρ l r):GQ K (Exit.then X Q) (.exit id) ρ l r:=h
theorem GQ.dO {id:Nat} (h:GQ K Q .normal ρ l r):GQ K (Exit.inBlock id Q) .normal ρ l r:=h
theorem GQ.eM {id:Nat} (h:GQ K Q .normal ρ l r):GQ K (Exit.inBlock id Q) (.exit id) ρ l r:=fun a w ha=>by simp only[Exit.inBlock,if_true];exact h a w ha
theorem GQ.Gi {id id':Nat} (wv:Nat.beq id' id=false) (h:GQ K Q (.exit id') ρ l r):GQ K (Exit.inBlock id Q) (.exit id') ρ l r:=
  fun a w ha=>by simp only[Exit.inBlock,if_neg (Nat.ne_of_beq_eq_false wv)];exact h a w ha
def Nb (K:Kx) (I:Nat→aB→List au→Prop) (r:List au) (n:Nat) (a:Act) (w:World):Prop:=∃m,m<n∧∃ρ l,I m ρ l∧At K ρ l r a w
theorem G.loop {c:Code} (I:Nat→aB→List au→Prop) {n:Nat} {ρ0:aB} (h0:I n ρ0 l) (hs:Sub ρ0 ρ)
    (h:∀n ρ l,I n ρ l→G P K (Exit.then (Nb K I r n) Q) c ρ l r):G P K Q (.loop c) ρ l r:=by
  intro a w ha;refine wp_loop (fun a w=>∃n,Nb K I r n a w) (fun a w=>Classical.epsilon fun n=>(∃ρ l,I n ρ l∧At K ρ l r a w)∧∀m,(∃ρ l,I m ρ l∧At K ρ l r a w)→n≤m) ⟨n+1,n,Nat.lt_succ_self _,ρ0,l,h0,ha.sub hs⟩ ?_;intro a w ⟨_,m,_,ρ,l,hI,hA⟩;have least:∀(a:Act) (w:World) (m:Nat),(∃ρ l,I m ρ l∧At K ρ l r a w)→∃n,(∃ρ l,I n ρ l∧At K ρ l r a w)∧∀m,(∃ρ l,I m ρ l∧At K ρ l r a w)→n≤m:=by
    intro a w m;induction m using Nat.strongRecOn with
    |_ m ih=>
      intro hm;by_cases hx:∃k,k<m∧∃ρ l,I k ρ l∧At K ρ l r a w
      · obtain⟨k,hk,uA⟩:=hx;grind
      · grind
  have e1:=Classical.epsilon_spec (least a w m ⟨ρ,l,hI,hA⟩);generalize hN:(Classical.epsilon fun n=>(∃ρ l,I n ρ l∧At K ρ l r a w)∧∀m,(∃ρ l,I m ρ l∧At K ρ l r a w)→n≤m)=N at*;obtain⟨⟨ρ1,l1,MD,hA1⟩,_⟩:=e1;refine wp_mono (h N ρ1 l1 MD a w hA1) ?_;intro e a' w' hq;cases e with
  |normal=>
    obtain⟨m',hm',ρ',l',hI',hA'⟩:=hq;refine⟨⟨N,m',hm',ρ',l',hI',hA'⟩,?_⟩;have e2:=Classical.epsilon_spec (least a' w' m' ⟨ρ',l',hI',hA'⟩);have:=e2.2 m' ⟨ρ',l',hI',hA'⟩;omega
  |_=>exact hq
theorem GQ.back {I:Nat→aB→List au→Prop} {n m:Nat} {ρ':aB} (hm:m<n) (hI:I m ρ' l) (hs:Sub ρ' ρ):GQ K (Exit.then (Nb K I r n) Q) .normal ρ l r:=
  fun a w ha=>⟨m,hm,ρ',l,hI,ha.sub hs⟩
theorem GQ.meet {M:aB→List au→Prop} {ρ':aB} (hM:M ρ' l) (hs:Sub ρ' ρ):GQ K (Exit.then (fun a w=>∃ρ l,M ρ l∧At K ρ l r a w) Q) .normal ρ l r:=
  fun a w ha=>⟨ρ',l,hM,ha.sub hs⟩
def aH (P:Program) (ρ:aB) (o:Oper) (v:Value):Prop:=∀a,sW ρ a→∀w,(execOp a.eval o).run P w=.ok (.value v) w
def n3 (P:Program) (ρ:aB) (l r:List au) (o:Oper) (v:Value):Prop:=∀a w,sW ρ a→St l r w→(execOp a.eval o).run P w=.ok (.value v) w
def kC (P:Program) (K:Kx) (ρ:aB) (l r:List au) (o:Oper) (N:aB→List au→Prop):Prop:=
  ∀a w,At K ρ l r a w→∀(nx:Act→World→Prop) (Q:Exit→Act→World→Prop),(∀a' w',(∃ρ' l',N ρ' l'∧At K ρ' l' r a' w')→nx a' w')→o.wp P a w nx Q
def want (L:List Oper) (ρ:aB) (o:Oper):Option Bool:=
  match o.guard with
  |none=>some true
  |some (j,b)=>match (nth j L).bind (·.dst) with
    |some t=>match look t ρ with
      |some (.bool b')=>some (match b',b with|true,true=>true|false,false=>true|_,_=>false)
      |_=>none
    |none=>none
theorem gW {L:List Oper} {ρ:aB} {o:Oper} {b:Bool} (h:want L ρ o=some b) {a:Act} (ha:sW ρ a):Region.wanted o (yielded L.toArray a.tmps)=b:=by
  unfold want at h;unfold Region.wanted;cases hg:o.guard with
  |none=>simp only[hg] at h ⊢;exact Option.some.inj h
  |some p=>
    obtain⟨j,b0⟩:=p;simp only[hg] at h ⊢;unfold yielded;cases hj:nth j L with
    |none=>simp[hj] at h
    |some oj=>
      rw[jd hj];simp only[hj,Option.bind_some] at h ⊢;cases hd:oj.dst with
      |none=>simp[hd] at h
      |some t=>
        simp only[hd,Option.bind_some] at h ⊢;cases hl:look t ρ with
        |none=>simp[hl] at h
        |some v=>
          rw[ha t v hl];cases v<;>simp only[hl] at h<;>try (cases h)
          rename_i b';cases b'<;>cases b0<;>simp
end
section
variable {P:Program} {K:Kx} {Q:Exit→Act→World→Prop} {ρ:aB} {l r:List au} {L rest:List Oper} {o:Oper} {d:Nat} {v:Value}
theorem aH.zw (h:aH P ρ o v):n3 P ρ l r o v:=fun a w ha _=>h a ha w
theorem GL.rd (h:n3 P ρ l r o v) (hw:want L ρ o=some true) (hd:o.dst=some d) (hn:Nat.blt d K.n=true) (k:GL P K Q L rest ((d,v)::ρ) l r):GL P K Q L (o::rest) ρ l r:=by
  intro a w ha;unfold wpList;rw[if_pos (gW hw ha.fr)];left;unfold Oper.wp;rw[h a w ha.fr ha.st];simp only[Oper.upon,hd];exact k _ _ (ha.put hn v)
theorem GL.y (h:aH P ρ o v) (hw:want L ρ o=some true) (hd:o.dst=some d) (hn:Nat.blt d K.n=true) (k:GL P K Q L rest ((d,v)::ρ) l r):GL P K Q L (o::rest) ρ l r:=
  GL.rd h.zw hw hd hn k
theorem GL.skip (hw:want L ρ o=some false) (hd:o.dst=some d) (hn:Nat.blt d K.n=true) (k:GL P K Q L rest ((d,undef)::ρ) l r):GL P K Q L (o::rest) ρ l r:=by
  intro a w ha;unfold wpList;rw[if_neg (by rw[gW hw ha.fr];simp),hd];exact k _ _ (ha.put hn undef)
theorem GL.c8 {N:aB→List au→Prop} (h:kC P K ρ l r o N) (hw:want L ρ o=some true) (k:∀ρ' l',N ρ' l'→GL P K Q L rest ρ' l' r):GL P K Q L (o::rest) ρ l r:=by
  intro a w ha;unfold wpList;rw[if_pos (gW hw ha.fr)];left;exact h a w ha _ _ fun a' w' ⟨ρ',l',hN,hA⟩=>k ρ' l' hN a' w' hA
theorem GL.nil (h:GQ K Q .normal ρ l r):GL P K Q L [] ρ l r:=fun a w ha=>h a w ha
theorem At.Le {a:Act} {w:World} {t:Nat} {b b':Bool} (h:At K ρ l r a w) (hl:look t ρ=some (.bool b)) (e:b=b'):At K ((t,.bool b')::ρ) l r a w:=by
  subst e;refine⟨h.size,h.defers,fun u x hu=>?_,h.keeps,h.st,h.own⟩;simp only[look,cond_eq_ite] at hu;by_cases e:Nat.beq t u=true
  · rw[if_pos e] at hu;rw[←Nat.eq_of_beq_eq_true e, ←Option.some.inj hu];exact h.fr _ _ hl
  · rw[if_neg e] at hu;exact h.fr _ _ hu
theorem GL.split {t:Nat} {p:Prop} [Decidable p] (hl:look t ρ=some (.bool (decide p))) (h1:p→GL P K Q L rest ((t,.bool true)::ρ) l r) (h2:¬p→GL P K Q L rest ((t,.bool false)::ρ) l r):GL P K Q L rest ρ l r:=by
  intro a w ha;by_cases hp:p
  · exact h1 hp a w (ha.Le hl (decide_eq_true hp))
  · exact h2 hp a w (ha.Le hl (decide_eq_false hp))
theorem GL.Nc {t:Nat} {b:Bool} (hl:look t ρ=some (.bool b)) (h1:b=true→GL P K Q L rest ((t,.bool true)::ρ) l r) (h2:b=false→GL P K Q L rest ((t,.bool false)::ρ) l r):GL P K Q L rest ρ l r:=by
  intro a w ha;cases b with
  |true=>exact h1 rfl a w (ha.Le hl rfl)
  |false=>exact h2 rfl a w (ha.Le hl rfl)
theorem GL.Ds {t:Nat} {p:Prop} [Decidable p] (hl:look t ρ=some (.bool (decide p))) (hp:p) (h1:GL P K Q L rest ((t,.bool true)::ρ) l r):GL P K Q L rest ρ l r:=GL.split hl (fun _=>h1) (fun h=>(h hp).elim)
theorem GL.vF {t:Nat} {p:Prop} [Decidable p] (hl:look t ρ=some (.bool (decide p))) (hp:¬p) (h1:GL P K Q L rest ((t,.bool false)::ρ) l r):GL P K Q L rest ρ l r:=GL.split hl (fun h=>(hp h).elim) (fun _=>h1)
variable {i:Nat} {os:List (Nat × Kd)}
theorem GP.y (h:aH P ρ o v) (hi:nth i L=some o) (hw:want L ρ o=some true) (hd:o.dst=some d) (hn:Nat.blt d K.n=true) (k:GP P K Q L os ((d,v)::ρ) l r):GP P K Q L ((i,.y)::os) ρ l r:=
  fun a w ha=>⟨o,v,jd hi,.inl ⟨gW hw ha.fr,fun w'=>h a ha.fr w'⟩,by rw[hd];exact k _ _ (ha.put hn v)⟩
theorem GP.skip (hi:nth i L=some o) (hw:want L ρ o=some false) (hd:o.dst=some d) (hn:Nat.blt d K.n=true) (k:GP P K Q L os ((d,undef)::ρ) l r):GP P K Q L ((i,.y)::os) ρ l r:=
  fun a w ha=>⟨o,undef,jd hi,.inr ⟨gW hw ha.fr,rfl⟩,by rw[hd];exact k _ _ (ha.put hn undef)⟩
theorem GP.Nd (hi:nth i L=some o) (hw:want L ρ o=some false) (hd:o.dst=some d) (hn:Nat.blt d K.n=true) (k:GP P K Q L os ((d,undef)::ρ) l r):GP P K Q L ((i,.r)::os) ρ l r:=
  fun a w ha=>⟨o,undef,jd hi,.inr ⟨gW hw ha.fr,rfl⟩,by rw[hd];exact k _ _ (ha.put hn undef)⟩
theorem GP.rd (h:n3 P ρ l r o v) (hi:nth i L=some o) (hw:want L ρ o=some true) (hd:o.dst=some d) (hn:Nat.blt d K.n=true) (k:GP P K Q L os ((d,v)::ρ) l r):GP P K Q L ((i,.r)::os) ρ l r:=
  fun a w ha=>⟨o,v,jd hi,.inl ⟨gW hw ha.fr,.inl (h a w ha.fr ha.st)⟩,by rw[hd];exact k _ _ (ha.put hn v)⟩
theorem GP.c8 {N:aB→List au→Prop} (h:kC P K ρ l r o N) (hi:nth i L=some o) (hw:want L ρ o=some true) (k:∀ρ' l',N ρ' l'→GP P K Q L os ρ' l' r):GP P K Q L ((i,.e)::os) ρ l r:=by
  intro a w ha;show wpOp P L.toArray Q i (wpP P L.toArray Q os) a w;unfold wpOp;rw[jd hi];simp only[];rw[if_pos (gW hw ha.fr)];left;exact h a w ha _ _ fun a' w' ⟨ρ',l',hN,hA⟩=>k ρ' l' hN a' w' hA
theorem GP.nil (h:GQ K Q .normal ρ l r):GP P K Q L [] ρ l r:=fun a w ha=>h a w ha
theorem GP.split {t:Nat} {p:Prop} [Decidable p] (hl:look t ρ=some (.bool (decide p))) (h1:p→GP P K Q L os ((t,.bool true)::ρ) l r) (h2:¬p→GP P K Q L os ((t,.bool false)::ρ) l r):GP P K Q L os ρ l r:=by
  intro a w ha;by_cases hp:p
  · exact h1 hp a w (ha.Le hl (decide_eq_true hp))
  · exact h2 hp a w (ha.Le hl (decide_eq_false hp))
section
variable {x y z:Operand} {ty bY:TypeId} {k:IntKind} {a b:Int} {m n:Nat} {u:Value}
theorem xr (ho:o.op=.move x) (hx:ev ρ x=some v):aH P ρ o v:=fun ac ha w=>by simp[execOp,ho,bf ha hx]
theorem qZ (ho:o.op=.assign x) (hx:ev ρ x=some v):aH P ρ o v:=fun ac ha w=>by simp[execOp,ho,bf ha hx]
theorem Wt (ho:o.op=.pick x y z) (hx:ev ρ x=some (.bool true)) (hy:ev ρ y=some v):aH P ρ o v:=fun ac ha w=>by simp[execOp,ho,bf ha hx,bf ha hy,asBool]
theorem Wu (ho:o.op=.pick x y z) (hx:ev ρ x=some (.bool false)) (hz:ev ρ z=some v):aH P ρ o v:=fun ac ha w=>by simp[execOp,ho,bf ha hx,bf ha hz,asBool]
theorem as0 {p:Addr} (ho:o.op=.nilCheck x) (hx:ev ρ x=some (.pointer (some p))):aH P ρ o (.pointer (some p)):=fun ac ha w=>by simp[execOp,ho,bf ha hx]
theorem as1 {vs:Array Value} {i:Nat} (ho:o.op=.extract x i) (hx:ev ρ x=some (.tuple vs)) (hv:vs[i]? =some v):aH P ρ o v:=fun ac ha w=>by
  simp[execOp,ho,bf ha hx,Instr.extract,hv]
theorem jf {bo:BinOp} (ho:o.op=.binOp bo ty x y bY) (hx:ev ρ x=some (.int k a)) (hy:ev ρ y=some (.int k b)) (h:∀w,(binOp bo ty (.int k a) (.int k b)).run P w=.ok u w):aH P ρ o u:=fun ac ha w=>by
  have e:(eqGuard bo ty x y (.int k a) (.int k b))=pure ():=by unfold eqGuard;split<;>rfl
  simp[execOp,ho,bf ha hx,bf ha hy,e,h]
theorem oS (ho:o.op=.binOp .add ty x y bY) (hx:ev ρ x=some (.int k a)) (hy:ev ρ y=some (.int k b)):aH P ρ o (.int k (k.wrap (a+b))):=jf ho hx hy fun w=>by simp[binOp,Op.intArith]
theorem mu (ho:o.op=.binOp .sub ty x y bY) (hx:ev ρ x=some (.int k a)) (hy:ev ρ y=some (.int k b)):aH P ρ o (.int k (k.wrap (a-b))):=jf ho hx hy fun w=>by simp[binOp,Op.intArith]
theorem vG (ho:o.op=.binOp .mul ty x y bY) (hx:ev ρ x=some (.int k a)) (hy:ev ρ y=some (.int k b)):aH P ρ o (.int k (k.wrap (a*b))):=jf ho hx hy fun w=>by simp[binOp,Op.intArith]
theorem Gj (ho:o.op=.binOp .lss ty x y bY) (hx:ev ρ x=some (.int k a)) (hy:ev ρ y=some (.int k b)):aH P ρ o (.bool (decide (a<b))):=jf ho hx hy fun w=>by simp[binOp,Op.intCmp]
theorem Wv (ho:o.op=.binOp .leq ty x y bY) (hx:ev ρ x=some (.int k a)) (hy:ev ρ y=some (.int k b)):aH P ρ o (.bool (decide (a≤b))):=jf ho hx hy fun w=>by simp[binOp,Op.intCmp]
theorem Nf (ho:o.op=.binOp .gtr ty x y bY) (hx:ev ρ x=some (.int k a)) (hy:ev ρ y=some (.int k b)):aH P ρ o (.bool (decide (b<a))):=jf ho hx hy fun w=>by simp[binOp,Op.intCmp]
theorem Ng (ho:o.op=.binOp .geq ty x y bY) (hx:ev ρ x=some (.int k a)) (hy:ev ρ y=some (.int k b)):aH P ρ o (.bool (decide (b≤a))):=jf ho hx hy fun w=>by simp[binOp,Op.intCmp]
theorem xt (ho:o.op=.binOp .eql ty x y bY) (hx:ev ρ x=some (.int k a)) (hy:ev ρ y=some (.int k b)):aH P ρ o (.bool (decide (a=b))):=jf ho hx hy fun w=>by simp[binOp,Op.intCmp];rfl
theorem as2 (ho:o.op=.binOp .neq ty x y bY) (hx:ev ρ x=some (.int k a)) (hy:ev ρ y=some (.int k b)):aH P ρ o (.bool (decide (a≠b))):=jf ho hx hy fun w=>by
  simp[binOp,Op.intCmp,bne];grind
end
end
section
variable {P:Program} {ρ:aB} {o:Oper} {v:Value} {x y:Operand} {ty bY:TypeId} {k k':IntKind} {a b:Int} {m n:Nat}
theorem aH.cast {u:Value} (h:aH P ρ o u) (e:u=v):aH P ρ o v:=e▸h
theorem xu {bo:BinOp} {u:Value} (ho:o.op=.binOp bo ty x y bY) (hx:ev ρ x=some (.int k a)) (hy:ev ρ y=some (.int k b)) (h:∀w,(Op.intBits bo k a b).run P w=.ok u w) (hb:bo=.and∨bo=.or∨bo=.xor∨bo=.andNot):aH P ρ o u:=
  jf ho hx hy fun w=>by rcases hb with rfl|rfl|rfl|rfl<;>simpa [binOp] using h w
theorem uN (ho:o.op=.binOp .and ty x y bY) (hx:ev ρ x=some (.int k a)) (hy:ev ρ y=some (.int k b)):aH P ρ o (.int k (k.wrap (BitVec.ofInt k.bits a&&&BitVec.ofInt k.bits b).toNat)):=xu ho hx hy (fun w=>by simp[Op.intBits]) Oi
theorem Du (ho:o.op=.binOp .or ty x y bY) (hx:ev ρ x=some (.int k a)) (hy:ev ρ y=some (.int k b)):aH P ρ o (.int k (k.wrap (BitVec.ofInt k.bits a|||BitVec.ofInt k.bits b).toNat)):=xu ho hx hy (fun w=>by simp[Op.intBits]) Oi
theorem Lf (ho:o.op=.binOp .andNot ty x y bY) (hx:ev ρ x=some (.int k a)) (hy:ev ρ y=some (.int k b)):aH P ρ o (.int k (k.wrap (BitVec.ofInt k.bits a&&& ~~~BitVec.ofInt k.bits b).toNat)):=xu ho hx hy (fun w=>by simp[Op.intBits]) Oi
theorem lU (ho:o.op=.binOp .shl ty x y bY) (hx:ev ρ x=some (.int k a)) (hy:ev ρ y=some (.int k' (n:Nat))):aH P ρ o (.int k (k.wrap (a*2^(min n k.bits)))):=fun ac ha w=>by
  have e:(eqGuard .shl ty x y (.int k a) (.int k' (n:Nat)))=pure ():=by unfold eqGuard;split<;>rfl
  simp[execOp,ho,bf ha hx,bf ha hy,e,binOp,Op.shift];intro h;omega
theorem rL (ho:o.op=.binOp .shr ty x y bY) (hx:ev ρ x=some (.int k a)) (hy:ev ρ y=some (.int k' (n:Nat))):aH P ρ o (.int k (a.fdiv (2^(min n k.bits)))):=fun ac ha w=>by
  have e:(eqGuard .shr ty x y (.int k a) (.int k' (n:Nat)))=pure ():=by unfold eqGuard;split<;>rfl
  simp[execOp,ho,bf ha hx,bf ha hy,e,binOp,Op.shift];intro h;omega
theorem xv (ho:o.op=.binOp .quo ty x y bY) (hx:ev ρ x=some (.int k a)) (hy:ev ρ y=some (.int k b)) (hb:b≠0):aH P ρ o (.int k (k.wrap (a.tdiv b))):=jf ho hx hy fun w=>by simp[binOp,Op.intDiv,hb]
theorem ajF {p:Prop} [Decidable p] (ho:o.op=.unOp .not ty x) (hx:ev ρ x=some (.bool (decide p))):aH P ρ o (.bool (decide (¬p))):=fun ac ha w=>by
  by_cases hp:p<;>simp[execOp,ho,bf ha hx,Op.unary,hp]
theorem Gk {b:Bool} (ho:o.op=.unOp .not ty x) (hx:ev ρ x=some (.bool b)):aH P ρ o (.bool (!b)):=fun ac ha w=>by
  simp[execOp,ho,bf ha hx,Op.unary]
theorem ajG (ho:o.op=.unOp .neg ty x) (hx:ev ρ x=some (.int k a)):aH P ρ o (.int k (k.wrap (-a))):=fun ac ha w=>by
  simp[execOp,ho,bf ha hx,Op.unary,Op.intArith]
theorem jg {s t:TypeId} {D:TypeDesc} (ho:o.op=.convert s t x) (hs:P.underlying s=some D) (ht:P.underlying t=some (.int k')) (hx:ev ρ x=some (.int k a)):aH P ρ o (.int k' (k'.wrap a)):=fun ac ha w=>by
  cases D<;>simp[execOp,ho,bf ha hx,convert,underlying,hs,ht,Conv.intToInt]
theorem nc (k:IntKind) (m n:Nat) (h:m<2^k.bits):((m:Nat):Int).fdiv (2^(min n k.bits))=((m/2^n:Nat):Int):=by
  have e:((2:Int)^(min n k.bits))=((2^(min n k.bits):Nat):Int):=Oi;rw[e,Int.fdiv_eq_ediv_of_nonneg _ (Int.natCast_nonneg _), ←Int.natCast_ediv];congr 1;rcases Nat.le_total n k.bits with h1|h1
  · grind
  · rw[Nat.min_eq_right h1,Nat.div_eq_of_lt h,Nat.div_eq_of_lt (Nat.lt_of_lt_of_le h (Nat.pow_le_pow_right Om h1))]
theorem eN (b m:Nat) (h:m<2^b):(BitVec.ofInt b (m:Int)).toNat=m:=by
  grind
end
section
variable {P:Program} {ρ:aB} {o:Oper} {x y:Operand} {ty bY:TypeId} {k':IntKind} {a b:Int} {m n:Nat}
theorem Ww (ho:o.op=.binOp .sub ty x y bY) (hx:ev ρ x=some (.int .i8 (m:Nat))) (hy:ev ρ y=some (.int .i8 (n:Nat))) (h:n≤m∧m≤127):aH P ρ o (.int .i8 ((m-n:Nat):Int)):=(mu ho hx hy).cast (by
  have e:((m:Nat):Int)-((n:Nat):Int)=((m-n:Nat):Int):=Om;rw[e,IntWalk.i8_in _ ⟨Om,Om⟩])
theorem abY {s t:TypeId} {D:TypeDesc} {k:IntKind} (ho:o.op=.convert s t x) (hs:P.underlying s=some D) (ht:P.underlying t=some (.int .i8)) (hx:ev ρ x=some (.int k (m:Nat))) (h:m≤127):aH P ρ o (.int .i8 ((m:Nat):Int)):=(jg ho hs ht hx).cast (by rw[IntWalk.i8_in _ ⟨Om,Om⟩])
theorem kh (ho:o.op=.binOp .add ty x y bY) (hx:ev ρ x=some (.int .i16 a)) (hy:ev ρ y=some (.int .i16 b)) (h: -32768≤a+b∧a+b≤32767):aH P ρ o (.int .i16 (a+b)):=(oS ho hx hy).cast (by rw[IntWalk.i16_in _ h])
theorem jh (ho:o.op=.binOp .sub ty x y bY) (hx:ev ρ x=some (.int .i16 a)) (hy:ev ρ y=some (.int .i16 b)) (h: -32768≤a-b∧a-b≤32767):aH P ρ o (.int .i16 (a-b)):=(mu ho hx hy).cast (by rw[IntWalk.i16_in _ h])
theorem Nh (ho:o.op=.binOp .add ty x y bY) (hx:ev ρ x=some (.int .i16 (m:Nat))) (hy:ev ρ y=some (.int .i16 (n:Nat))) (h:m+n≤32767):aH P ρ o (.int .i16 ((m+n:Nat):Int)):=(oS ho hx hy).cast (by
  have e:((m:Nat):Int)+((n:Nat):Int)=((m+n:Nat):Int):=Oi;rw[e,IntWalk.i16_in _ ⟨Om,Om⟩])
theorem Ni (ho:o.op=.binOp .mul ty x y bY) (hx:ev ρ x=some (.int .i16 (m:Nat))) (hy:ev ρ y=some (.int .i16 (n:Nat))) (h:m*n≤32767):aH P ρ o (.int .i16 ((m*n:Nat):Int)):=(vG ho hx hy).cast (by
  have e:((m:Nat):Int)*((n:Nat):Int)=((m*n:Nat):Int):=Oi;rw[e,IntWalk.i16_in _ ⟨Om,Om⟩])
theorem Nj (ho:o.op=.binOp .sub ty x y bY) (hx:ev ρ x=some (.int .i16 (m:Nat))) (hy:ev ρ y=some (.int .i16 (n:Nat))) (h:n≤m∧m≤32767):aH P ρ o (.int .i16 ((m-n:Nat):Int)):=(mu ho hx hy).cast (by
  have e:((m:Nat):Int)-((n:Nat):Int)=((m-n:Nat):Int):=Om;rw[e,IntWalk.i16_in _ ⟨Om,Om⟩])
theorem Nk (ho:o.op=.binOp .shr ty x y bY) (hx:ev ρ x=some (.int .i16 (m:Nat))) (hy:ev ρ y=some (.int k' (n:Nat))) (h:m<65536):aH P ρ o (.int .i16 ((m/2^n:Nat):Int)):=(rL ho hx hy).cast (by rw[nc _ _ _ (by simpa [IntKind.bits] using h)])
theorem Nl (ho:o.op=.binOp .shl ty x y bY) (hx:ev ρ x=some (.int .i16 (m:Nat))) (hy:ev ρ y=some (.int k' (n:Nat))) (hn:n≤16) (h:m*2^n≤32767):aH P ρ o (.int .i16 ((m*2^n:Nat):Int)):=(lU ho hx hy).cast (by
  have e:((m:Nat):Int)*2^(min n (IntKind.bits .i16))=((m*2^n:Nat):Int):=by
    rw[Nat.min_eq_left (by simpa [IntKind.bits] using hn)];simp
  rw[e,IntWalk.i16_in _ ⟨Om,Om⟩])
theorem Wx {s t:TypeId} {D:TypeDesc} {k:IntKind} (ho:o.op=.convert s t x) (hs:P.underlying s=some D) (ht:P.underlying t=some (.int .i16)) (hx:ev ρ x=some (.int k (m:Nat))) (h:m≤32767):aH P ρ o (.int .i16 ((m:Nat):Int)):=(jg ho hs ht hx).cast (by rw[IntWalk.i16_in _ ⟨Om,Om⟩])
theorem Wz {s t:TypeId} {D:TypeDesc} {k:IntKind} (ho:o.op=.convert s t x) (hs:P.underlying s=some D) (ht:P.underlying t=some (.int .i16)) (hx:ev ρ x=some (.int k a)) (h: -32768≤a∧a≤32767):aH P ρ o (.int .i16 a):=(jg ho hs ht hx).cast (by rw[IntWalk.i16_in _ h])
theorem oU (ho:o.op=.binOp .add ty x y bY) (hx:ev ρ x=some (.int .i32 a)) (hy:ev ρ y=some (.int .i32 b)) (h: -2147483648≤a+b∧a+b≤2147483647):aH P ρ o (.int .i32 (a+b)):=(oS ho hx hy).cast (by rw[IntWalk.i32_in _ h])
theorem xw (ho:o.op=.binOp .sub ty x y bY) (hx:ev ρ x=some (.int .i32 a)) (hy:ev ρ y=some (.int .i32 b)) (h: -2147483648≤a-b∧a-b≤2147483647):aH P ρ o (.int .i32 (a-b)):=(mu ho hx hy).cast (by rw[IntWalk.i32_in _ h])
theorem Nm (ho:o.op=.binOp .add ty x y bY) (hx:ev ρ x=some (.int .i32 (m:Nat))) (hy:ev ρ y=some (.int .i32 (n:Nat))) (h:m+n≤2147483647):aH P ρ o (.int .i32 ((m+n:Nat):Int)):=(oS ho hx hy).cast (by
  have e:((m:Nat):Int)+((n:Nat):Int)=((m+n:Nat):Int):=Oi;rw[e,IntWalk.i32_in _ ⟨Om,Om⟩])
theorem Nn (ho:o.op=.binOp .mul ty x y bY) (hx:ev ρ x=some (.int .i32 (m:Nat))) (hy:ev ρ y=some (.int .i32 (n:Nat))) (h:m*n≤2147483647):aH P ρ o (.int .i32 ((m*n:Nat):Int)):=(vG ho hx hy).cast (by
  have e:((m:Nat):Int)*((n:Nat):Int)=((m*n:Nat):Int):=Oi;rw[e,IntWalk.i32_in _ ⟨Om,Om⟩])
theorem No (ho:o.op=.binOp .sub ty x y bY) (hx:ev ρ x=some (.int .i32 (m:Nat))) (hy:ev ρ y=some (.int .i32 (n:Nat))) (h:n≤m∧m≤2147483647):aH P ρ o (.int .i32 ((m-n:Nat):Int)):=(mu ho hx hy).cast (by
  have e:((m:Nat):Int)-((n:Nat):Int)=((m-n:Nat):Int):=Om;rw[e,IntWalk.i32_in _ ⟨Om,Om⟩])
theorem Np (ho:o.op=.binOp .shr ty x y bY) (hx:ev ρ x=some (.int .i32 (m:Nat))) (hy:ev ρ y=some (.int k' (n:Nat))) (h:m<4294967296):aH P ρ o (.int .i32 ((m/2^n:Nat):Int)):=(rL ho hx hy).cast (by rw[nc _ _ _ (by simpa [IntKind.bits] using h)])
theorem Nq (ho:o.op=.binOp .shl ty x y bY) (hx:ev ρ x=some (.int .i32 (m:Nat))) (hy:ev ρ y=some (.int k' (n:Nat))) (hn:n≤32) (h:m*2^n≤2147483647):aH P ρ o (.int .i32 ((m*2^n:Nat):Int)):=(lU ho hx hy).cast (by
  have e:((m:Nat):Int)*2^(min n (IntKind.bits .i32))=((m*2^n:Nat):Int):=by
    rw[Nat.min_eq_left (by simpa [IntKind.bits] using hn)];simp
  rw[e,IntWalk.i32_in _ ⟨Om,Om⟩])
theorem WA {s t:TypeId} {D:TypeDesc} {k:IntKind} (ho:o.op=.convert s t x) (hs:P.underlying s=some D) (ht:P.underlying t=some (.int .i32)) (hx:ev ρ x=some (.int k (m:Nat))) (h:m≤2147483647):aH P ρ o (.int .i32 ((m:Nat):Int)):=(jg ho hs ht hx).cast (by rw[IntWalk.i32_in _ ⟨Om,Om⟩])
theorem JK {s t:TypeId} {D:TypeDesc} {k:IntKind} (ho:o.op=.convert s t x) (hs:P.underlying s=some D) (ht:P.underlying t=some (.int .i32)) (hx:ev ρ x=some (.int k a)) (h: -2147483648≤a∧a≤2147483647):aH P ρ o (.int .i32 a):=(jg ho hs ht hx).cast (by rw[IntWalk.i32_in _ h])
theorem Dv (ho:o.op=.binOp .add ty x y bY) (hx:ev ρ x=some (.int .i64 a)) (hy:ev ρ y=some (.int .i64 b)) (h: -9223372036854775808≤a+b∧a+b≤9223372036854775807):aH P ρ o (.int .i64 (a+b)):=(oS ho hx hy).cast (by rw[IntWalk.i64_in _ h])
theorem ji (ho:o.op=.binOp .sub ty x y bY) (hx:ev ρ x=some (.int .i64 a)) (hy:ev ρ y=some (.int .i64 b)) (h: -9223372036854775808≤a-b∧a-b≤9223372036854775807):aH P ρ o (.int .i64 (a-b)):=(mu ho hx hy).cast (by rw[IntWalk.i64_in _ h])
theorem Nr (ho:o.op=.binOp .mul ty x y bY) (hx:ev ρ x=some (.int .i64 a)) (hy:ev ρ y=some (.int .i64 b)) (h: -9223372036854775808≤a*b∧a*b≤9223372036854775807):aH P ρ o (.int .i64 (a*b)):=(vG ho hx hy).cast (by rw[IntWalk.i64_in _ h])
theorem Ns (ho:o.op=.binOp .add ty x y bY) (hx:ev ρ x=some (.int .i64 (m:Nat))) (hy:ev ρ y=some (.int .i64 (n:Nat))) (h:m+n≤9223372036854775807):aH P ρ o (.int .i64 ((m+n:Nat):Int)):=(oS ho hx hy).cast (by
  have e:((m:Nat):Int)+((n:Nat):Int)=((m+n:Nat):Int):=Oi;rw[e,IntWalk.i64_in _ ⟨Om,Om⟩])
theorem Nt (ho:o.op=.binOp .mul ty x y bY) (hx:ev ρ x=some (.int .i64 (m:Nat))) (hy:ev ρ y=some (.int .i64 (n:Nat))) (h:m*n≤9223372036854775807):aH P ρ o (.int .i64 ((m*n:Nat):Int)):=(vG ho hx hy).cast (by
  have e:((m:Nat):Int)*((n:Nat):Int)=((m*n:Nat):Int):=Oi;rw[e,IntWalk.i64_in _ ⟨Om,Om⟩])
theorem Nu (ho:o.op=.binOp .sub ty x y bY) (hx:ev ρ x=some (.int .i64 (m:Nat))) (hy:ev ρ y=some (.int .i64 (n:Nat))) (h:n≤m∧m≤9223372036854775807):aH P ρ o (.int .i64 ((m-n:Nat):Int)):=(mu ho hx hy).cast (by
  have e:((m:Nat):Int)-((n:Nat):Int)=((m-n:Nat):Int):=Om;rw[e,IntWalk.i64_in _ ⟨Om,Om⟩])
theorem Nv (ho:o.op=.binOp .and ty x y bY) (hx:ev ρ x=some (.int .i64 (m:Nat))) (hy:ev ρ y=some (.int .i64 (n:Nat))) (h:m<9223372036854775808∨n<9223372036854775808) (hm:m<18446744073709551616) (hn:n<18446744073709551616):aH P ρ o (.int .i64 ((m&&&n:Nat):Int)):=(uN ho hx hy).cast (by
  rw[BitVec.toNat_and,show IntKind.bits .i64=64 from rfl,eN _ _ hm,eN _ _ hn,IntWalk.i64_in _ ⟨Om,?_⟩];have h1:=@Nat.and_le_left m n;have h2:=@Nat.and_le_right m n;omega)
theorem WB (ho:o.op=.binOp .or ty x y bY) (hx:ev ρ x=some (.int .i64 (m:Nat))) (hy:ev ρ y=some (.int .i64 (n:Nat))) (hm:m<9223372036854775808) (hn:n<9223372036854775808):aH P ρ o (.int .i64 ((m|||n:Nat):Int)):=(Du ho hx hy).cast (by
  rw[BitVec.toNat_or,show IntKind.bits .i64=64 from rfl,eN _ _ Om,eN _ _ Om,IntWalk.i64_in _ ⟨Om,?_⟩];have h1:=Nat.or_lt_two_pow (n:=63) (x:=m) (y:=n) Om Om;omega)
theorem Nw (ho:o.op=.binOp .shr ty x y bY) (hx:ev ρ x=some (.int .i64 (m:Nat))) (hy:ev ρ y=some (.int k' (n:Nat))) (h:m<18446744073709551616):aH P ρ o (.int .i64 ((m/2^n:Nat):Int)):=(rL ho hx hy).cast (by rw[nc _ _ _ (by simpa [IntKind.bits] using h)])
theorem Nx (ho:o.op=.binOp .shl ty x y bY) (hx:ev ρ x=some (.int .i64 (m:Nat))) (hy:ev ρ y=some (.int k' (n:Nat))) (hn:n≤64) (h:m*2^n≤9223372036854775807):aH P ρ o (.int .i64 ((m*2^n:Nat):Int)):=(lU ho hx hy).cast (by
  have e:((m:Nat):Int)*2^(min n (IntKind.bits .i64))=((m*2^n:Nat):Int):=by
    rw[Nat.min_eq_left (by simpa [IntKind.bits] using hn)];simp
  rw[e,IntWalk.i64_in _ ⟨Om,Om⟩])
theorem Ny (ho:o.op=.binOp .quo ty x y bY) (hx:ev ρ x=some (.int .i64 (m:Nat))) (hy:ev ρ y=some (.int .i64 (n:Nat))) (h0:0<n) (hm:m≤9223372036854775807):aH P ρ o (.int .i64 ((m/n:Nat):Int)):=(xv ho hx hy Om).cast (by
  rw[Int.tdiv_eq_ediv_of_nonneg Om, ←Int.natCast_ediv];have h1:=Nat.div_le_self m n;generalize m/n=q at*;rw[IntWalk.i64_in _ ⟨Om,Om⟩])
theorem WD {s t:TypeId} {D:TypeDesc} {k:IntKind} (ho:o.op=.convert s t x) (hs:P.underlying s=some D) (ht:P.underlying t=some (.int .i64)) (hx:ev ρ x=some (.int k (m:Nat))) (h:m≤9223372036854775807):aH P ρ o (.int .i64 ((m:Nat):Int)):=(jg ho hs ht hx).cast (by rw[IntWalk.i64_in _ ⟨Om,Om⟩])
theorem WE {s t:TypeId} {D:TypeDesc} {k:IntKind} (ho:o.op=.convert s t x) (hs:P.underlying s=some D) (ht:P.underlying t=some (.int .i64)) (hx:ev ρ x=some (.int k a)) (h: -9223372036854775808≤a∧a≤9223372036854775807):aH P ρ o (.int .i64 a):=(jg ho hs ht hx).cast (by rw[IntWalk.i64_in _ h])
theorem WG (ho:o.op=.binOp .add ty x y bY) (hx:ev ρ x=some (.int .u8 (m:Nat))) (hy:ev ρ y=some (.int .u8 (n:Nat))) (h:m+n≤255):aH P ρ o (.int .u8 ((m+n:Nat):Int)):=(oS ho hx hy).cast (by
  have e:((m:Nat):Int)+((n:Nat):Int)=((m+n:Nat):Int):=Oi;rw[e,IntWalk.u8_in _ ⟨Om,Om⟩])
theorem WH (ho:o.op=.binOp .mul ty x y bY) (hx:ev ρ x=some (.int .u8 (m:Nat))) (hy:ev ρ y=some (.int .u8 (n:Nat))) (h:m*n≤255):aH P ρ o (.int .u8 ((m*n:Nat):Int)):=(vG ho hx hy).cast (by
  have e:((m:Nat):Int)*((n:Nat):Int)=((m*n:Nat):Int):=Oi;rw[e,IntWalk.u8_in _ ⟨Om,Om⟩])
theorem WI (ho:o.op=.binOp .sub ty x y bY) (hx:ev ρ x=some (.int .u8 (m:Nat))) (hy:ev ρ y=some (.int .u8 (n:Nat))) (h:n≤m∧m≤255):aH P ρ o (.int .u8 ((m-n:Nat):Int)):=(mu ho hx hy).cast (by
  have e:((m:Nat):Int)-((n:Nat):Int)=((m-n:Nat):Int):=Om;rw[e,IntWalk.u8_in _ ⟨Om,Om⟩])
theorem WJ (ho:o.op=.binOp .and ty x y bY) (hx:ev ρ x=some (.int .u8 (m:Nat))) (hy:ev ρ y=some (.int .u8 (n:Nat))) (h:m<256∨n<256) (hm:m<256) (hn:n<256):aH P ρ o (.int .u8 ((m&&&n:Nat):Int)):=(uN ho hx hy).cast (by
  rw[BitVec.toNat_and,show IntKind.bits .u8=8 from rfl,eN _ _ hm,eN _ _ hn,IntWalk.u8_in _ ⟨Om,?_⟩];have h1:=@Nat.and_le_left m n;omega)
theorem Br (ho:o.op=.binOp .or ty x y bY) (hx:ev ρ x=some (.int .u8 (m:Nat))) (hy:ev ρ y=some (.int .u8 (n:Nat))) (hm:m<256) (hn:n<256):aH P ρ o (.int .u8 ((m|||n:Nat):Int)):=(Du ho hx hy).cast (by
  rw[BitVec.toNat_or,show IntKind.bits .u8=8 from rfl,eN _ _ Om,eN _ _ Om,IntWalk.u8_in _ ⟨Om,?_⟩];have h1:=Nat.or_lt_two_pow (n:=8) (x:=m) (y:=n) Om Om;omega)
theorem WK (ho:o.op=.binOp .shr ty x y bY) (hx:ev ρ x=some (.int .u8 (m:Nat))) (hy:ev ρ y=some (.int k' (n:Nat))) (h:m<256):aH P ρ o (.int .u8 ((m/2^n:Nat):Int)):=(rL ho hx hy).cast (by rw[nc _ _ _ (by simpa [IntKind.bits] using h)])
theorem WL (ho:o.op=.binOp .shl ty x y bY) (hx:ev ρ x=some (.int .u8 (m:Nat))) (hy:ev ρ y=some (.int k' (n:Nat))) (hn:n≤8) (h:m*2^n≤255):aH P ρ o (.int .u8 ((m*2^n:Nat):Int)):=(lU ho hx hy).cast (by
  have e:((m:Nat):Int)*2^(min n (IntKind.bits .u8))=((m*2^n:Nat):Int):=by
    rw[Nat.min_eq_left (by simpa [IntKind.bits] using hn)];simp
  rw[e,IntWalk.u8_in _ ⟨Om,Om⟩])
theorem WN (ho:o.op=.binOp .quo ty x y bY) (hx:ev ρ x=some (.int .u8 (m:Nat))) (hy:ev ρ y=some (.int .u8 (n:Nat))) (h0:0<n) (hm:m≤255):aH P ρ o (.int .u8 ((m/n:Nat):Int)):=(xv ho hx hy Om).cast (by
  rw[Int.tdiv_eq_ediv_of_nonneg Om, ←Int.natCast_ediv];have h1:=Nat.div_le_self m n;generalize m/n=q at*;rw[IntWalk.u8_in _ ⟨Om,Om⟩])
theorem abZ {s t:TypeId} {D:TypeDesc} {k:IntKind} (ho:o.op=.convert s t x) (hs:P.underlying s=some D) (ht:P.underlying t=some (.int .u8)) (hx:ev ρ x=some (.int k (m:Nat))) (h:m≤255):aH P ρ o (.int .u8 ((m:Nat):Int)):=(jg ho hs ht hx).cast (by rw[IntWalk.u8_in _ ⟨Om,Om⟩])
theorem xx (a:Int):IntKind.u8.wrap a=a%256:=by simp[IntKind.wrap,IntKind.bits,IntKind.signed]
theorem WO (ho:o.op=.binOp .add ty x y bY) (hx:ev ρ x=some (.int .u8 (m:Nat))) (hy:ev ρ y=some (.int .u8 (n:Nat))):aH P ρ o (.int .u8 (((m+n)%256:Nat):Int)):=(oS ho hx hy).cast (by rw[xx];simp)
theorem WQ (ho:o.op=.binOp .sub ty x y bY) (hx:ev ρ x=some (.int .u8 (m:Nat))) (hy:ev ρ y=some (.int .u8 (n:Nat))) (h:n≤256):aH P ρ o (.int .u8 (((m+256-n)%256:Nat):Int)):=(mu ho hx hy).cast (by rw[xx];congr 1;omega)
theorem ab0 {s t:TypeId} {D:TypeDesc} {k:IntKind} (ho:o.op=.convert s t x) (hs:P.underlying s=some D) (ht:P.underlying t=some (.int .u8)) (hx:ev ρ x=some (.int k (m:Nat))):aH P ρ o (.int .u8 ((m%256:Nat):Int)):=(jg ho hs ht hx).cast (by rw[xx];simp)
theorem Nz (ho:o.op=.binOp .add ty x y bY) (hx:ev ρ x=some (.int .u16 (m:Nat))) (hy:ev ρ y=some (.int .u16 (n:Nat))) (h:m+n≤65535):aH P ρ o (.int .u16 ((m+n:Nat):Int)):=(oS ho hx hy).cast (by
  have e:((m:Nat):Int)+((n:Nat):Int)=((m+n:Nat):Int):=Oi;rw[e,IntWalk.u16_in _ ⟨Om,Om⟩])
theorem NA (ho:o.op=.binOp .sub ty x y bY) (hx:ev ρ x=some (.int .u16 (m:Nat))) (hy:ev ρ y=some (.int .u16 (n:Nat))) (h:n≤m∧m≤65535):aH P ρ o (.int .u16 ((m-n:Nat):Int)):=(mu ho hx hy).cast (by
  have e:((m:Nat):Int)-((n:Nat):Int)=((m-n:Nat):Int):=Om;rw[e,IntWalk.u16_in _ ⟨Om,Om⟩])
theorem NC (ho:o.op=.binOp .and ty x y bY) (hx:ev ρ x=some (.int .u16 (m:Nat))) (hy:ev ρ y=some (.int .u16 (n:Nat))) (h:m<65536∨n<65536) (hm:m<65536) (hn:n<65536):aH P ρ o (.int .u16 ((m&&&n:Nat):Int)):=(uN ho hx hy).cast (by
  rw[BitVec.toNat_and,show IntKind.bits .u16=16 from rfl,eN _ _ hm,eN _ _ hn,IntWalk.u16_in _ ⟨Om,?_⟩];have h1:=@Nat.and_le_left m n;omega)
theorem WS (ho:o.op=.binOp .or ty x y bY) (hx:ev ρ x=some (.int .u16 (m:Nat))) (hy:ev ρ y=some (.int .u16 (n:Nat))) (hm:m<65536) (hn:n<65536):aH P ρ o (.int .u16 ((m|||n:Nat):Int)):=(Du ho hx hy).cast (by
  rw[BitVec.toNat_or,show IntKind.bits .u16=16 from rfl,eN _ _ Om,eN _ _ Om,IntWalk.u16_in _ ⟨Om,?_⟩];have h1:=Nat.or_lt_two_pow (n:=16) (x:=m) (y:=n) Om Om;omega)
theorem ND (ho:o.op=.binOp .shr ty x y bY) (hx:ev ρ x=some (.int .u16 (m:Nat))) (hy:ev ρ y=some (.int k' (n:Nat))) (h:m<65536):aH P ρ o (.int .u16 ((m/2^n:Nat):Int)):=(rL ho hx hy).cast (by rw[nc _ _ _ (by simpa [IntKind.bits] using h)])
theorem NF (ho:o.op=.binOp .shl ty x y bY) (hx:ev ρ x=some (.int .u16 (m:Nat))) (hy:ev ρ y=some (.int k' (n:Nat))) (hn:n≤16) (h:m*2^n≤65535):aH P ρ o (.int .u16 ((m*2^n:Nat):Int)):=(lU ho hx hy).cast (by
  have e:((m:Nat):Int)*2^(min n (IntKind.bits .u16))=((m*2^n:Nat):Int):=by
    rw[Nat.min_eq_left (by simpa [IntKind.bits] using hn)];simp
  rw[e,IntWalk.u16_in _ ⟨Om,Om⟩])
theorem WT {s t:TypeId} {D:TypeDesc} {k:IntKind} (ho:o.op=.convert s t x) (hs:P.underlying s=some D) (ht:P.underlying t=some (.int .u16)) (hx:ev ρ x=some (.int k (m:Nat))) (h:m≤65535):aH P ρ o (.int .u16 ((m:Nat):Int)):=(jg ho hs ht hx).cast (by rw[IntWalk.u16_in _ ⟨Om,Om⟩])
theorem JL {s t:TypeId} {D:TypeDesc} {k:IntKind} (ho:o.op=.convert s t x) (hs:P.underlying s=some D) (ht:P.underlying t=some (.int .u16)) (hx:ev ρ x=some (.int k a)) (h:0≤a∧a≤65535):aH P ρ o (.int .u16 a):=(jg ho hs ht hx).cast (by rw[IntWalk.u16_in _ h])
theorem z7 (a:Int):IntKind.u16.wrap a=a%65536:=by simp[IntKind.wrap,IntKind.bits,IntKind.signed]
theorem NG (ho:o.op=.binOp .shl ty x y bY) (hx:ev ρ x=some (.int .u16 (m:Nat))) (hy:ev ρ y=some (.int k' (n:Nat))):aH P ρ o (.int .u16 ((m*2^n%65536:Nat):Int)):=(lU ho hx hy).cast (by
  rw[z7,show IntKind.bits .u16=16 from rfl];congr 1;rcases Nat.le_total n 16 with h1|h1
  · grind
  · rw[Nat.min_eq_right h1];have e:m*2^n=(m*2^(n-16))*65536:=by rw[Nat.mul_assoc,show(65536:Nat)=2^16 from rfl, ←Nat.pow_add];congr 2;omega
    omega)
theorem WU {s t:TypeId} {D:TypeDesc} {k:IntKind} (ho:o.op=.convert s t x) (hs:P.underlying s=some D) (ht:P.underlying t=some (.int .u16)) (hx:ev ρ x=some (.int k (m:Nat))):aH P ρ o (.int .u16 ((m%65536:Nat):Int)):=(jg ho hs ht hx).cast (by rw[z7];simp)
theorem NH (ho:o.op=.binOp .add ty x y bY) (hx:ev ρ x=some (.int .u32 (m:Nat))) (hy:ev ρ y=some (.int .u32 (n:Nat))) (h:m+n≤4294967295):aH P ρ o (.int .u32 ((m+n:Nat):Int)):=(oS ho hx hy).cast (by
  have e:((m:Nat):Int)+((n:Nat):Int)=((m+n:Nat):Int):=Oi;rw[e,IntWalk.u32_in _ ⟨Om,Om⟩])
theorem NI (ho:o.op=.binOp .mul ty x y bY) (hx:ev ρ x=some (.int .u32 (m:Nat))) (hy:ev ρ y=some (.int .u32 (n:Nat))) (h:m*n≤4294967295):aH P ρ o (.int .u32 ((m*n:Nat):Int)):=(vG ho hx hy).cast (by
  have e:((m:Nat):Int)*((n:Nat):Int)=((m*n:Nat):Int):=Oi;rw[e,IntWalk.u32_in _ ⟨Om,Om⟩])
theorem NJ (ho:o.op=.binOp .sub ty x y bY) (hx:ev ρ x=some (.int .u32 (m:Nat))) (hy:ev ρ y=some (.int .u32 (n:Nat))) (h:n≤m∧m≤4294967295):aH P ρ o (.int .u32 ((m-n:Nat):Int)):=(mu ho hx hy).cast (by
  have e:((m:Nat):Int)-((n:Nat):Int)=((m-n:Nat):Int):=Om;rw[e,IntWalk.u32_in _ ⟨Om,Om⟩])
theorem NK (ho:o.op=.binOp .and ty x y bY) (hx:ev ρ x=some (.int .u32 (m:Nat))) (hy:ev ρ y=some (.int .u32 (n:Nat))) (h:m<4294967296∨n<4294967296) (hm:m<4294967296) (hn:n<4294967296):aH P ρ o (.int .u32 ((m&&&n:Nat):Int)):=(uN ho hx hy).cast (by
  rw[BitVec.toNat_and,show IntKind.bits .u32=32 from rfl,eN _ _ hm,eN _ _ hn,IntWalk.u32_in _ ⟨Om,?_⟩];have h1:=@Nat.and_le_left m n;omega)
theorem dx (ho:o.op=.binOp .or ty x y bY) (hx:ev ρ x=some (.int .u32 (m:Nat))) (hy:ev ρ y=some (.int .u32 (n:Nat))) (hm:m<4294967296) (hn:n<4294967296):aH P ρ o (.int .u32 ((m|||n:Nat):Int)):=(Du ho hx hy).cast (by
  rw[BitVec.toNat_or,show IntKind.bits .u32=32 from rfl,eN _ _ Om,eN _ _ Om,IntWalk.u32_in _ ⟨Om,?_⟩];have h1:=Nat.or_lt_two_pow (n:=32) (x:=m) (y:=n) Om Om;omega)
theorem NL (ho:o.op=.binOp .shr ty x y bY) (hx:ev ρ x=some (.int .u32 (m:Nat))) (hy:ev ρ y=some (.int k' (n:Nat))) (h:m<4294967296):aH P ρ o (.int .u32 ((m/2^n:Nat):Int)):=(rL ho hx hy).cast (by rw[nc _ _ _ (by simpa [IntKind.bits] using h)])
theorem NM (ho:o.op=.binOp .shl ty x y bY) (hx:ev ρ x=some (.int .u32 (m:Nat))) (hy:ev ρ y=some (.int k' (n:Nat))) (hn:n≤32) (h:m*2^n≤4294967295):aH P ρ o (.int .u32 ((m*2^n:Nat):Int)):=(lU ho hx hy).cast (by
  have e:((m:Nat):Int)*2^(min n (IntKind.bits .u32))=((m*2^n:Nat):Int):=by
    rw[Nat.min_eq_left (by simpa [IntKind.bits] using hn)];simp
  rw[e,IntWalk.u32_in _ ⟨Om,Om⟩])
theorem NN (ho:o.op=.binOp .quo ty x y bY) (hx:ev ρ x=some (.int .u32 (m:Nat))) (hy:ev ρ y=some (.int .u32 (n:Nat))) (h0:0<n) (hm:m≤4294967295):aH P ρ o (.int .u32 ((m/n:Nat):Int)):=(xv ho hx hy Om).cast (by
  rw[Int.tdiv_eq_ediv_of_nonneg Om, ←Int.natCast_ediv];have h1:=Nat.div_le_self m n;generalize m/n=q at*;rw[IntWalk.u32_in _ ⟨Om,Om⟩])
theorem WV {s t:TypeId} {D:TypeDesc} {k:IntKind} (ho:o.op=.convert s t x) (hs:P.underlying s=some D) (ht:P.underlying t=some (.int .u32)) (hx:ev ρ x=some (.int k (m:Nat))) (h:m≤4294967295):aH P ρ o (.int .u32 ((m:Nat):Int)):=(jg ho hs ht hx).cast (by rw[IntWalk.u32_in _ ⟨Om,Om⟩])
theorem JM {s t:TypeId} {D:TypeDesc} {k:IntKind} (ho:o.op=.convert s t x) (hs:P.underlying s=some D) (ht:P.underlying t=some (.int .u32)) (hx:ev ρ x=some (.int k a)) (h:0≤a∧a≤4294967295):aH P ρ o (.int .u32 a):=(jg ho hs ht hx).cast (by rw[IntWalk.u32_in _ h])
theorem qm (a:Int):IntKind.u32.wrap a=a%4294967296:=by simp[IntKind.wrap,IntKind.bits,IntKind.signed]
theorem NO (ho:o.op=.binOp .mul ty x y bY) (hx:ev ρ x=some (.int .u32 (m:Nat))) (hy:ev ρ y=some (.int .u32 (n:Nat))):aH P ρ o (.int .u32 (((m*n)%4294967296:Nat):Int)):=(vG ho hx hy).cast (by rw[qm];simp)
theorem NP (ho:o.op=.binOp .sub ty x y bY) (hx:ev ρ x=some (.int .u32 (m:Nat))) (hy:ev ρ y=some (.int .u32 (n:Nat))) (h:n≤4294967296):aH P ρ o (.int .u32 (((m+4294967296-n)%4294967296:Nat):Int)):=(mu ho hx hy).cast (by rw[qm];congr 1;omega)
theorem NQ (ho:o.op=.binOp .shl ty x y bY) (hx:ev ρ x=some (.int .u32 (m:Nat))) (hy:ev ρ y=some (.int k' (n:Nat))):aH P ρ o (.int .u32 ((m*2^n%4294967296:Nat):Int)):=(lU ho hx hy).cast (by
  rw[qm,show IntKind.bits .u32=32 from rfl];congr 1;rcases Nat.le_total n 32 with h1|h1
  · grind
  · rw[Nat.min_eq_right h1];have e:m*2^n=(m*2^(n-32))*4294967296:=by rw[Nat.mul_assoc,show(4294967296:Nat)=2^32 from rfl, ←Nat.pow_add];congr 2;omega
    omega)
theorem WW {s t:TypeId} {D:TypeDesc} {k:IntKind} (ho:o.op=.convert s t x) (hs:P.underlying s=some D) (ht:P.underlying t=some (.int .u32)) (hx:ev ρ x=some (.int k (m:Nat))):aH P ρ o (.int .u32 ((m%4294967296:Nat):Int)):=(jg ho hs ht hx).cast (by rw[qm];simp)
theorem NS (ho:o.op=.binOp .add ty x y bY) (hx:ev ρ x=some (.int .u64 (m:Nat))) (hy:ev ρ y=some (.int .u64 (n:Nat))) (h:m+n≤18446744073709551615):aH P ρ o (.int .u64 ((m+n:Nat):Int)):=(oS ho hx hy).cast (by
  have e:((m:Nat):Int)+((n:Nat):Int)=((m+n:Nat):Int):=Oi;rw[e,IntWalk.u64_in _ ⟨Om,Om⟩])
theorem NT (ho:o.op=.binOp .mul ty x y bY) (hx:ev ρ x=some (.int .u64 (m:Nat))) (hy:ev ρ y=some (.int .u64 (n:Nat))) (h:m*n≤18446744073709551615):aH P ρ o (.int .u64 ((m*n:Nat):Int)):=(vG ho hx hy).cast (by
  have e:((m:Nat):Int)*((n:Nat):Int)=((m*n:Nat):Int):=Oi;rw[e,IntWalk.u64_in _ ⟨Om,Om⟩])
theorem NU (ho:o.op=.binOp .sub ty x y bY) (hx:ev ρ x=some (.int .u64 (m:Nat))) (hy:ev ρ y=some (.int .u64 (n:Nat))) (h:n≤m∧m≤18446744073709551615):aH P ρ o (.int .u64 ((m-n:Nat):Int)):=(mu ho hx hy).cast (by
  have e:((m:Nat):Int)-((n:Nat):Int)=((m-n:Nat):Int):=Om;rw[e,IntWalk.u64_in _ ⟨Om,Om⟩])
theorem NV (ho:o.op=.binOp .and ty x y bY) (hx:ev ρ x=some (.int .u64 (m:Nat))) (hy:ev ρ y=some (.int .u64 (n:Nat))) (h:m<18446744073709551616∨n<18446744073709551616) (hm:m<18446744073709551616) (hn:n<18446744073709551616):aH P ρ o (.int .u64 ((m&&&n:Nat):Int)):=(uN ho hx hy).cast (by
  rw[BitVec.toNat_and,show IntKind.bits .u64=64 from rfl,eN _ _ hm,eN _ _ hn,IntWalk.u64_in _ ⟨Om,?_⟩];have h1:=@Nat.and_le_left m n;omega)
theorem nf (ho:o.op=.binOp .or ty x y bY) (hx:ev ρ x=some (.int .u64 (m:Nat))) (hy:ev ρ y=some (.int .u64 (n:Nat))) (hm:m<18446744073709551616) (hn:n<18446744073709551616):aH P ρ o (.int .u64 ((m|||n:Nat):Int)):=(Du ho hx hy).cast (by
  rw[BitVec.toNat_or,show IntKind.bits .u64=64 from rfl,eN _ _ Om,eN _ _ Om,IntWalk.u64_in _ ⟨Om,?_⟩];have h1:=Nat.or_lt_two_pow (n:=64) (x:=m) (y:=n) Om Om;omega)
theorem NW (ho:o.op=.binOp .shr ty x y bY) (hx:ev ρ x=some (.int .u64 (m:Nat))) (hy:ev ρ y=some (.int k' (n:Nat))) (h:m<18446744073709551616):aH P ρ o (.int .u64 ((m/2^n:Nat):Int)):=(rL ho hx hy).cast (by rw[nc _ _ _ (by simpa [IntKind.bits] using h)])
theorem NX (ho:o.op=.binOp .shl ty x y bY) (hx:ev ρ x=some (.int .u64 (m:Nat))) (hy:ev ρ y=some (.int k' (n:Nat))) (hn:n≤64) (h:m*2^n≤18446744073709551615):aH P ρ o (.int .u64 ((m*2^n:Nat):Int)):=(lU ho hx hy).cast (by
  have e:((m:Nat):Int)*2^(min n (IntKind.bits .u64))=((m*2^n:Nat):Int):=by
    rw[Nat.min_eq_left (by simpa [IntKind.bits] using hn)];simp
  rw[e,IntWalk.u64_in _ ⟨Om,Om⟩])
theorem NY (ho:o.op=.binOp .quo ty x y bY) (hx:ev ρ x=some (.int .u64 (m:Nat))) (hy:ev ρ y=some (.int .u64 (n:Nat))) (h0:0<n) (hm:m≤18446744073709551615):aH P ρ o (.int .u64 ((m/n:Nat):Int)):=(xv ho hx hy Om).cast (by
  rw[Int.tdiv_eq_ediv_of_nonneg Om, ←Int.natCast_ediv];have h1:=Nat.div_le_self m n;generalize m/n=q at*;rw[IntWalk.u64_in _ ⟨Om,Om⟩])
theorem WX {s t:TypeId} {D:TypeDesc} {k:IntKind} (ho:o.op=.convert s t x) (hs:P.underlying s=some D) (ht:P.underlying t=some (.int .u64)) (hx:ev ρ x=some (.int k (m:Nat))) (h:m≤18446744073709551615):aH P ρ o (.int .u64 ((m:Nat):Int)):=(jg ho hs ht hx).cast (by rw[IntWalk.u64_in _ ⟨Om,Om⟩])
theorem Lg (a:Int):IntKind.u64.wrap a=a%18446744073709551616:=by simp[IntKind.wrap,IntKind.bits,IntKind.signed]
theorem NZ (ho:o.op=.binOp .shl ty x y bY) (hx:ev ρ x=some (.int .u64 (m:Nat))) (hy:ev ρ y=some (.int k' (n:Nat))):aH P ρ o (.int .u64 ((m*2^n%18446744073709551616:Nat):Int)):=(lU ho hx hy).cast (by
  rw[Lg,show IntKind.bits .u64=64 from rfl];congr 1;rcases Nat.le_total n 64 with h1|h1
  · grind
  · rw[Nat.min_eq_right h1];have e:m*2^n=(m*2^(n-64))*18446744073709551616:=by rw[Nat.mul_assoc,show(18446744073709551616:Nat)=2^64 from rfl, ←Nat.pow_add];congr 2;omega
    omega)
theorem Dw (ho:o.op=.binOp .andNot ty x y bY) (hx:ev ρ x=some (.int .u64 (m:Nat))) (hy:ev ρ y=some (.int .u64 (n:Nat))) (hm:m<18446744073709551616) (hn:n<18446744073709551616):aH P ρ o (.int .u64 ((m&&&(18446744073709551615-n):Nat):Int)):=(Lf ho hx hy).cast (by
  rw[BitVec.toNat_and,BitVec.toNat_not,show IntKind.bits .u64=64 from rfl,eN _ _ hm,eN _ _ hn,show 2^64-1-n=18446744073709551615-n from by omega,IntWalk.u64_in _ ⟨Om,?_⟩];have h1:=@Nat.and_le_left m (18446744073709551615-n);omega)
end
def fieldOff (P:Program) (s f:Nat):Option Nat:=
  match P.underlying s with
  |some (.struct fs)=>match fs[f]? with
    |some fl=>match P.info? fl.type with
      |some i=>if i.size=0 then none else some fl.offset
      |none=>none
    |none=>none
  |_=>none
def eW (P:Program) (t:Nat):Option Nat:=(P.info? t).map (·.size)
def cJ (P:Program) (t:Nat):Option Nat:=
  match P.underlying t with
  |some (.slice e)=>eW P e
  |_=>none
def gX (P:Program) (t:Nat):Option (Nat × Nat):=
  match P.underlying t with
  |some (.array n e)=>(eW P e).map fun s=>(n,s)
  |_=>none
def mv (P:Program) (t:Nat):Option Bool:=
  match P.underlying t with
  |some (.struct _)=>some true
  |some (.array _ _)=>some true
  |some _=>some false
  |none=>none
def vH (P:Program) (t:Nat):Option (List Value):=(P.info? t).bind fun i=>i.zero.map fun z=>z.cells.toList
def nthS:Nat→List au→Option au
  |_,[]=>none
  |0,s::_=>some s
  |n+1,_::l=>nthS n l
def setS:Nat→au→List au→List au
  |_,_,[]=>[]
  |0,s,_::l=>s::l
  |n+1,s,t::l=>t::setS n s l
theorem dq:∀(i:Nat) (l:List au) (s:au),nthS i l=some s→s ∈ l
  |_,[],_,h=>by simp[nthS] at h
  |0,t::l,s,h=>by simp[nthS] at h;simp[h]
  |n+1,t::l,s,h=>List.mem_cons_of_mem _ (dq n l s h)
theorem kj {P:Program} {t:Nat} {i:TypeInfo} (h:P.info? t=some i) (w:World):(typeInfo t).run P w=.ok i w:=by
  simp[typeInfo,h]
theorem cH {P:Program} {t n:Nat} (h:eW P t=some n) (w:World):(sizeOf t).run P w=.ok n w:=by
  unfold eW at h;cases hi:P.info? t with
  |none=>simp[hi] at h
  |some i=>simp[hi] at h;simp[sizeOf,kj hi,h]
theorem aK {P:Program} {t:Nat} {D:TypeDesc} (h:P.underlying t=some D) (w:World):(underlying t).run P w=.ok D w:=by
  simp[underlying,h]
theorem qn {P:Program} {t:Nat} {b:Bool} (h:mv P t=some b) (w:World):(isAgg t).run P w=.ok b w:=by
  unfold mv at h;cases hu:P.underlying t with
  |none=>simp[hu] at h
  |some D=>cases D<;>simp[hu] at h<;>simp[isAgg,aK hu,h]
theorem df (b q n:Nat):(⟨b,q,none⟩:Addr).add n=⟨b,q+n,none⟩:=by unfold Addr.add;split<;>simp_all
section
variable {P:Program} {K:Kx} {Q:Exit→Act→World→Prop} {ρ:aB} {l r:List au} {o:Oper} {v:Value} {x y z:Operand} {t s f sz n m len cap b q j:Nat} {k:IntKind}
theorem ajH (ho:o.op=.fieldAddr s x f) (hx:ev ρ x=some (.pointer (some ⟨b,q,none⟩))) (hP:fieldOff P s f=some n):aH P ρ o (.pointer (some ⟨b,q+n,none⟩)):=fun ac ha w=>by
  unfold fieldOff at hP;cases hu:P.underlying s with
  |none=>simp[hu] at hP
  |some D=>
    cases D<;>simp[hu] at hP;rename_i fs;cases hf:fs[f]? with
    |none=>simp[hf] at hP
    |some fl=>
      simp only[hf] at hP;cases hi:P.info? fl.type with
      |none=>simp[hi] at hP
      |some i=>
        simp only[hi] at hP;split at hP
        · cases hP
        · rename_i wv;have hn:=Option.some.inj hP;subst hn;simp[execOp,ho,bf ha hx,Instr.fieldAt,aK hu,hf,Instr.sureAddr,fieldPlace,sizeOf,kj hi,wv,df]
theorem eI {q':Nat} (ho:o.op=.indexAddr t x y) (hx:ev ρ x=some (.slice (some ⟨b,q,none⟩) len cap)) (hy:ev ρ y=some (.int k (m:Nat))) (hP:cJ P t=some sz) (h:m<len) (hq:q+m*sz=q'):aH P ρ o (.pointer (some ⟨b,q',none⟩)):=by
  subst hq;intro ac ha w;unfold cJ at hP;cases hu:P.underlying t with
  |none=>simp[hu] at hP
  |some D=>
    cases D<;>simp[hu] at hP;simp[execOp,ho,bf ha hx,bf ha hy,Instr.indexAt,asIntOf,aK hu,h,cH hP,df]
theorem ZU {q':Nat} (ho:o.op=.indexAddr t x y) (hx:ev ρ x=some (.slice (some ⟨b,q,none⟩) len cap)) (hy:ev ρ y=some (.int k (m:Nat))) (hP:cJ P t=some 1) (h:m<len) (hq:q+m=q'):aH P ρ o (.pointer (some ⟨b,q',none⟩)):=
  eI ho hx hy hP h (by rw[Nat.mul_one];exact hq)
theorem ab1 {q':Nat} (ho:o.op=.indexAddr t x y) (hx:ev ρ x=some (.pointer (some ⟨b,q,none⟩))) (hy:ev ρ y=some (.int k (m:Nat))) (hP:gX P t=some (n,sz)) (h:m<n) (hq:q+m*sz=q'):aH P ρ o (.pointer (some ⟨b,q',none⟩)):=by
  subst hq;intro ac ha w;unfold gX at hP;cases hu:P.underlying t with
  |none=>simp[hu] at hP
  |some D=>
    cases D<;>simp[hu] at hP;obtain⟨h1,rfl⟩:=hP;simp[execOp,ho,bf ha hx,bf ha hy,Instr.indexAt,asIntOf,aK hu,h,cH h1,df,Instr.sureAddr]
theorem ZV {q':Nat} (ho:o.op=.indexAddr t x y) (hx:ev ρ x=some (.pointer (some ⟨b,q,none⟩))) (hy:ev ρ y=some (.int k (m:Nat))) (hP:gX P t=some (n,1)) (h:m<n) (hq:q+m=q'):aH P ρ o (.pointer (some ⟨b,q',none⟩)):=
  ab1 ho hx hy hP h (by rw[Nat.mul_one];exact hq)
theorem JN {s:au} {w:World} (h:s.oz w) (hc:s.cs[j]? =some v) (hq:q=s.o+j):w.cell? ⟨s.b,q,none⟩=some v:=by subst hq;exact h.1 j v hc
theorem z8 {w:World} (hP:mv P t=some false) (hc:w.cell? ⟨b,q,none⟩=some v):(Instr.loadAt t (.pointer (some ⟨b,q,none⟩))).run P w=.ok v w:=by
  simp[Instr.loadAt,Instr.sureAddr,loadVar,qn hP,hc]
theorem dy {sg:au} (i j:Nat) (hs:nthS i l=some sg) (ho:o.op=.load t x) (hx:ev ρ x=some (.pointer (some ⟨sg.b,q,none⟩))) (hP:mv P t=some false) (hq:q=sg.o+j) (hc:sg.cs[j]? =some v):n3 P ρ l r o v:=fun ac w ha ie=>by
  simp[execOp,ho,bf ha hx,z8 hP (JN (ie.hl sg (dq _ _ _ hs)) hc hq)]
theorem n4 {sg:au} (i j:Nat) (hs:nthS i r=some sg) (ho:o.op=.load t x) (hx:ev ρ x=some (.pointer (some ⟨sg.b,q,none⟩))) (hP:mv P t=some false) (hq:q=sg.o+j) (hc:sg.cs[j]? =some v):n3 P ρ l r o v:=fun ac w ha ie=>by
  simp[execOp,ho,bf ha hx,z8 hP (JN (ie.hr sg (dq _ _ _ hs)) hc hq)]
theorem WY {s s':au} (h1:s'.b=s.b) (h2:s'.o=s.o) (h3:s'.cs.length=s.cs.length) (b j:Nat):s'.has b j↔s.has b j:=by unfold au.has;rw[h1,h2,h3]
theorem sX:∀(i:Nat) (s':au) (l:List au) (u:au),u ∈ setS i s' l→u=s'∨u ∈ l
  |_,_,[],u,h=>by simp[setS] at h
  |0,s',t::l,u,h=>by simp[setS] at h;rcases h with h|h<;>simp[h]
  |n+1,s',t::l,u,h=>by
    simp only[setS,List.mem_cons] at h;rcases h with h|h
    · simp[h]
    · rcases sX n s' l u h with h'|h'<;>simp[h']
theorem z9:∀(i:Nat) (s s':au) (l:List au) (u:au),nthS i l=some s→l.Pairwise au.apart→u ∈ setS i s' l→u=s'∨(u ∈ l∧u.apart s)
  |_,_,_,[],u,_,_,h=>by simp[setS] at h
  |0,s,s',t::l,u,hn,hp,h=>by
    simp[nthS] at hn;subst hn;simp only[setS,List.mem_cons] at h;rcases h with h|h
    · exact .inl h
    · exact .inr ⟨List.mem_cons_of_mem _ h,(List.rel_of_pairwise_cons hp h).symm⟩
  |n+1,s,s',t::l,u,hn,hp,h=>by
    simp only[nthS] at hn;simp only[setS,List.mem_cons] at h;rcases h with h|h
    · subst h;exact .inr ⟨List.mem_cons_self,List.rel_of_pairwise_cons hp (dq n l s hn)⟩
    · rcases z9 n s s' l u hn (List.Pairwise.of_cons hp) h with h'|h'
      · exact .inl h'
      · grind
theorem JO:∀(i:Nat) (s s':au) (l:List au),nthS i l=some s→(∀b j,s'.has b j↔s.has b j)→l.Pairwise au.apart→(setS i s' l).Pairwise au.apart
  |_,_,_,[],_,_,_=>by simp[setS]
  |0,s,s',t::l,hn,hh,hp=>by
    simp[nthS] at hn;subst hn;simp only[setS];refine List.Pairwise.cons (fun u hu b j h1 h2=>?_) (List.Pairwise.of_cons hp);exact List.rel_of_pairwise_cons hp hu b j ((hh b j).1 h1) h2
  |n+1,s,s',t::l,hn,hh,hp=>by
    simp only[nthS] at hn;simp only[setS];refine List.Pairwise.cons (fun u hu b j h1 h2=>?_) (JO n s s' l hn hh (List.Pairwise.of_cons hp));rcases sX n s' l u hu with h|h
    · subst h;exact List.rel_of_pairwise_cons hp (dq n l s hn) b j h1 ((hh b j).1 h2)
    · exact List.rel_of_pairwise_cons hp h b j h1 h2
theorem At.store {a:Act} {w:World} {sg:au} {i:Nat} (h:At K ρ l r a w) (hs:nthS i l=some sg) (hj:j<sg.cs.length) (v:Value):
    At K ρ (setS i ⟨sg.b,sg.o,sg.cs.set j v,sg.sh⟩ l) r a (w.setCell ⟨sg.b,sg.o+j,none⟩ v):=by
  have hm:=dq _ _ _ hs;have ajI:sg.has sg.b (sg.o+j):=⟨rfl,Om,Om⟩;have hh:∀b j',(⟨sg.b,sg.o,sg.cs.set j v,sg.sh⟩:au).has b j'↔sg.has b j':=WY rfl rfl Oi;have hk:fH [sg] w (w.setCell ⟨sg.b,sg.o+j,none⟩ v):=fH.setCell w v ⟨sg,Oi,ajI⟩;have jO:=h.st.hl sg hm;have hold:∀u:au,u.oz w→u.apart sg→u.oz (w.setCell ⟨sg.b,sg.o+j,none⟩ v):=fun u hu wx=>by
    refine⟨fun j' v' M'=>?_,fun j' VS=>?_,fun x hx=>?_⟩
    · rw[World.cell?_setCell_other]
      · exact hu.1 j' v' M'
      · intro e;injection e with e1 e2;have eV:j'<u.cs.length:=by
          grind
        exact wx sg.b (sg.o+j) ⟨e1.symm,Om,Om⟩ ajI
    · rw[World.frozen?_setCell];exact hu.2.1 j' VS
    · exact hk.shape (hu.2.2 x hx)
  have as3:(⟨sg.b,sg.o,sg.cs.set j v,sg.sh⟩:au).oz (w.setCell ⟨sg.b,sg.o+j,none⟩ v):=by
    refine⟨fun j' v' M'=>?_,fun j' VS=>?_,fun x hx=>hk.shape (jO.2.2 x hx)⟩
    · simp only[List.getElem?_set] at M';by_cases e:j=j'
      · subst e;simp[hj] at M';subst M';exact World.cell?_setCell_same w _ v (jO.1 j (sg.cs[j]) (by simp[hj]))
      · rw[if_neg e] at M';show World.cell? _ ⟨sg.b,sg.o+j',none⟩=_;rw[World.cell?_setCell_other]
        · exact jO.1 j' v' M'
        · grind
    · show World.frozen? _ ⟨sg.b,sg.o+j',none⟩=_;rw[World.frozen?_setCell];exact jO.2.1 j' (by simpa using VS)
  refine⟨h.size,h.defers,h.fr,h.keeps.trans' hk ?_,⟨?_,?_,JO i sg _ l hs hh h.st.pw,?_⟩,?_⟩
  · intro s hs' b j' hb;rw[List.mem_singleton] at hs';subst hs';exact h.own s hm b j' hb
  · intro u hu;rcases z9 i sg _ l u hs h.st.pw hu with h'|h'
    · grind
    · exact hold u (h.st.hl u h'.1) h'.2
  · intro u hu;exact hold u (h.st.hr u hu) (h.st.lr sg hm u hu).symm
  · intro u hu t ht;rcases sX i _ l u hu with h'|h'
    · subst h';intro b j' h1 h2;exact h.st.lr sg hm t ht b j' ((hh b j').1 h1) h2
    · exact h.st.lr u h' t ht
  · intro u hu b j' hb;rcases sX i _ l u hu with h'|h'
    · subst h';exact h.own sg hm b j' ((hh b j').1 hb)
    · exact h.own u h' b j' hb
theorem vI {a:Addr} {w:World} {u:Value} (hv:v.oneCell'=true) (hc:w.cell? a=some u) (hf:w.frozen? a=false):(store a v).run P w=.ok () (w.setCell a v):=by
  rw[run_store _ _ _ _ _ hv,hc];simp[hf]
theorem Lh (hv:v.oneCell'=true):v.cells= #[v]:=by cases v<;>first|rfl|(simp[Value.oneCell'] at hv)
theorem iY {sg:au} (i j:Nat) {gU:List Value} (hs:nthS i l=some sg) (ho:o.op=.store t x y) (hx:ev ρ x=some (.pointer (some ⟨sg.b,q,none⟩))) (hy:ev ρ y=some v) (hP:eW P t=some 1) (hv:v.oneCell'=true)
    (hq:q=sg.o+j) (hj:j<sg.cs.length) (hd:o.dst=none) (hc:sg.cs.set j v=gU):kC P K ρ l r o (fun ρ' l'=>ρ'=ρ∧l'=setS i ⟨sg.b,sg.o,gU,sg.sh⟩ l):=by
  intro a w ha nx Q mf;have hm:=dq _ _ _ hs;have jO:=ha.st.hl sg hm;subst hq;have ld:w.cell? ⟨sg.b,sg.o+j,none⟩=some sg.cs[j]:=jO.1 j _ (by simp[hj]);unfold Oper.wp;have e:(execOp a.eval o).run P w=.ok .skip (w.setCell ⟨sg.b,sg.o+j,none⟩ v):=by
    simp[execOp,ho,bf ha.fr hx,bf ha.fr hy,Instr.storeAt,Instr.sureAddr,storeVar,cH hP,Lh hv,storeCells,Addr.add,vI (P:=P) hv ld (jO.2.1 _ hj)]
  rw[e];simp only[Oper.upon,hd,Act.put];exact mf _ _ ⟨ρ,_,⟨rfl,rfl⟩,by rw[←hc];exact ha.store hs hj v⟩
end
def takeOut:Nat→List au→Option (au × List au)
  |_,[]=>none
  |0,s::l=>some (s,l)
  |n+1,t::l=>match takeOut n l with
    |some (s,l')=>some (s,t::l')
    |none=>none
def pickS:List Nat→List au→Option (List au × List au)
  |[],l=>some ([],l)
  |i::is,l=>match takeOut i l with
    |some (s,l1)=>match pickS is l1 with
      |some (p,rest)=>some (s::p,rest)
      |none=>none
    |none=>none
def pickR:List Nat→List au→Option (List au)
  |[],_=>some []
  |i::is,l=>match nthS i l with
    |some s=>match pickR is l with
      |some p=>some (s::p)
      |none=>none
    |none=>none
theorem sY:∀(i:Nat) (l:List au) (s:au) (l':List au),takeOut i l=some (s,l')→l.Perm (s::l')
  |_,[],_,_,h=>by simp[takeOut] at h
  |0,t::l,s,l',h=>by simp[takeOut] at h;obtain⟨rfl,rfl⟩:=h;exact .refl _
  |n+1,t::l,s,l',h=>by
    simp only[takeOut] at h;cases ht:takeOut n l with
    |none=>simp[ht] at h
    |some p=>
      obtain⟨s1,l1⟩:=p;simp[ht] at h;obtain⟨rfl,rfl⟩:=h;exact((sY n l s1 l1 ht).cons t).trans (.swap _ _ _)
theorem iI:∀(is:List Nat) (l p rest:List au),pickS is l=some (p,rest)→l.Perm (p++rest)
  |[],l,p,rest,h=>by simp[pickS] at h;obtain⟨rfl,rfl⟩:=h;exact .refl _
  |i::is,l,p,rest,h=>by
    simp only[pickS] at h;cases ht:takeOut i l with
    |none=>simp[ht] at h
    |some q=>
      obtain⟨s,l1⟩:=q;simp only[ht] at h;cases hp:pickS is l1 with
      |none=>simp[hp] at h
      |some q2=>
        obtain⟨p1,ajJ⟩:=q2;simp[hp] at h;obtain⟨rfl,rfl⟩:=h;exact(sY i l s l1 ht).trans ((iI is l1 p1 ajJ hp).cons s)
theorem uO:∀(is:List Nat) (l p:List au),pickR is l=some p→∀s ∈ p,s ∈ l
  |[],l,p,h,s,hs=>by simp[pickR] at h;subst h;cases hs
  |i::is,l,p,h,s,hs=>by
    simp only[pickR] at h;cases ht:nthS i l with
    |none=>simp[ht] at h
    |some q=>
      simp only[ht] at h;cases hp:pickR is l with
      |none=>simp[hp] at h
      |some p1=>
        simp[hp] at h;subst h;rcases List.mem_cons.1 hs with h'|h'
        · grind [dq]
        · exact uO is l p1 hp s h'
theorem St.perm {l l2 r:List au} {w:World} (h:St l r w) (hp:l.Perm l2):St l2 r w:=
  ⟨fun s hs=>h.hl s (hp.mem_iff.2 hs),h.hr,(hp.pairwise_iff (fun h=>h.symm)).1 h.pw,fun s hs=>h.lr s (hp.mem_iff.2 hs)⟩
theorem St.left {l l2 r:List au} {w:World} (h:St (l++l2) r w):St l r w:=
  ⟨fun s hs=>h.hl s (List.mem_append_left _ hs),h.hr,(List.pairwise_append.1 h.pw).1,fun s hs=>h.lr s (List.mem_append_left _ hs)⟩
theorem At.perm {K:Kx} {ρ:aB} {l l2 r:List au} {a:Act} {w:World} (h:At K ρ l r a w) (hp:l.Perm l2):At K ρ l2 r a w:=
  ⟨h.size,h.defers,h.fr,h.keeps,h.st.perm hp,fun s hs=>h.own s (hp.mem_iff.2 hs)⟩
theorem At.left {K:Kx} {ρ:aB} {l l2 r:List au} {a:Act} {w:World} (h:At K ρ (l++l2) r a w):At K ρ l r a w:=
  ⟨h.size,h.defers,h.fr,h.keeps,h.st.left,fun s hs=>h.own s (List.mem_append_left _ hs)⟩
theorem At.pick {K:Kx} {ρ:aB} {l p rest r:List au} {a:Act} {w:World} (is:List Nat) (h:At K ρ l r a w) (hp:pickS is l=some (p,rest)):At K ρ p r a w:=
  (h.perm (iI _ _ _ _ hp)).left
def Dx (P:Program) (f:FuncId):Prop:=∃fn,P.funcs[f]? =some fn∧(fn.name== "runtime.NumGoroutine")=false∧fn.body.isNone=false
structure Ends (dz:Value→List au→Prop) (l r:List au) (w:World) (e:Ending) (w':World):Prop where
  mk'::
  out:∃v l',e=.returned v∧dz v l'∧fH l w w'∧St l' r w'∧∀s ∈ l',∀b j:Nat,s.has b j→(∃t ∈ l,t.has b j)∨w.heap.size≤b
structure aE (P:Program) (f:FuncId) (args:List Value) (l r:List au) (dz:Value→List au→Prop):Prop where
  can:Dx P f
  run:∀w,St l r w→Calls P f args.toArray w (Ends dz l r w)
def frArgs:Nat→List Value→aB
  |_,[]=>[]
  |i,v::vs=>(i,v)::frArgs (i+1) vs
theorem z':∀(vs:List Value) (i t:Nat) (v:Value),look t (frArgs i vs)=some v→i≤t∧vs[t-i]? =some v
  |[],i,t,v,h=>by simp[frArgs,look] at h
  |u::vs,i,t,v,h=>by
    simp only[frArgs,look,cond_eq_ite] at h;by_cases e:Nat.beq i t=true
    · simp_all
    · rw[if_neg e] at h;obtain⟨h1,h2⟩:=z' vs (i+1) t v h;grind
theorem aE.intro {P:Program} {f:FuncId} {fn:Func} {c:Code} {args:List Value} {l r:List au} {dz:Value→List au→Prop} (hf:P.funcs[f]? =some fn) (hb:fn.body=some c) (N1:(fn.name== "runtime.NumGoroutine")=false) (hn:args.length≤fn.ntmps)
    (h:∀w0,G P ⟨fn.ntmps,l,w0⟩ (bodyPost P fn (Ends dz l r w0)) c (frArgs 0 args) l r):aE P f args l r dz:=by
  refine⟨⟨fn,hf,N1,by simp[hb]⟩,fun w ie=>calls_of_wp hf hb (h w _ w ⟨?_,rfl,?_,.refl _ _,ie,fun s hs b j hh=>.inl ⟨s,hs,hh⟩⟩)⟩
  · simp;omega
  · intro t v ht;obtain⟨_,h2⟩:=z' args 0 t v ht;grind
theorem aE.mono {P:Program} {f:FuncId} {args:List Value} {l r:List au} {dz ZW:Value→List au→Prop} (h:aE P f args l r dz) (hp:∀v l',dz v l'→ZW v l'):aE P f args l r ZW:=
  ⟨h.can,fun w ie=>(h.run w ie).mono fun e w' ⟨v,l',h1,h2,h3⟩=>⟨v,l',h1,hp _ _ h2,h3⟩⟩
def evs (ρ:aB):List Operand→Option (List Value)
  |[]=>some []
  |x::xs=>match ev ρ x with
    |some v=>match evs ρ xs with
      |some vs=>some (v::vs)
      |none=>none
    |none=>none
theorem oV {ρ:aB} {a:Act} (ha:sW ρ a):∀(xs:List Operand) (vs:List Value),evs ρ xs=some vs→xs.map a.eval=vs
  |[],vs,h=>by simp[evs] at h;simp[h]
  |x::xs,vs,h=>by
    simp only[evs] at h;cases hx:ev ρ x with
    |none=>simp[hx] at h
    |some v=>
      simp only[hx] at h;cases hxs:evs ρ xs with
      |none=>simp[hxs] at h
      |some us=>
        simp[hxs] at h;subst h;simp[bf ha hx,oV ha xs us hxs]
section
variable {P:Program} {K:Kx} {Q:Exit→Act→World→Prop} {ρ:aB} {l r:List au} {o:Oper} {v:Value}
theorem ng {f:FuncId} (h:Dx P f) (args:Array Value) (w:World):(callFunc f args).run P w=.ok (.enter f args) w:=by
  obtain⟨fn,hf,hn,hb⟩:=h;simp only[callFunc,Sem.run_bind,run_program,Result.andThen_ok,hf];rw[if_neg (by rw[hn];simp),if_neg (by rw[hb];simp)]
  rfl
theorem At.uP {a:Act} {w w':World} {lc rest rc wy:List au} (ha:At K ρ (lc++rest) r a w) (ME:∀s ∈ rc,s ∈ rest++r) (hk:fH lc w w') (ie:St wy rc w')
    (Dy:∀s ∈ wy,∀b j:Nat,s.has b j→(∃t ∈ lc,t.has b j)∨w.heap.size≤b):At K ρ (wy++rest) r a w':=by
  have jO:=ha.st;have hpw:=List.pairwise_append.1 jO.pw;have ZX:∀s:au,s.oz w→(∀t ∈ lc,t.apart s)→s.oz w':=fun s hs wx=>hs.iG hk wx
  have ZY:∀s ∈ wy,∀t:au,t.oz w→(∀u ∈ lc,u.apart t)→s.apart t:=fun s hs t ht wx b j h1 h2=>by
    rcases Dy s hs b j h1 with ⟨u,hu,ZZ⟩|wR
    · exact wx u hu b j ZZ h2
    · have:=ht.lt h2;omega
  have sV:∀t ∈ rest,∀u ∈ lc,u.apart t:=fun t ht u hu=>hpw.2.2 u hu t ht
  refine⟨ha.size,ha.defers,ha.fr,ha.keeps.trans' hk fun s hs b j hh=>ha.own s (List.mem_append_left _ hs) b j hh,⟨?_,?_,?_,?_⟩,?_⟩
  · intro s hs;rcases List.mem_append.1 hs with h|h
    · exact ie.hl s h
    · exact ZX s (jO.hl s (List.mem_append_right _ h)) (sV s h)
  · intro s hs;exact ZX s (jO.hr s hs) fun t ht=>jO.lr t (List.mem_append_left _ ht) s hs
  · refine List.pairwise_append.2 ⟨ie.pw,hpw.2.1,fun s hs t ht=>ZY s hs t (jO.hl t (List.mem_append_right _ ht)) (sV t ht)⟩
  · intro s hs t ht;rcases List.mem_append.1 hs with h|h
    · exact ZY s h t (jO.hr t ht) fun u hu=>jO.lr u (List.mem_append_left _ hu) t ht
    · exact jO.lr s (List.mem_append_right _ h) t ht
  · intro s hs b j hh;rcases List.mem_append.1 hs with h|h
    · rcases Dy s h b j hh with ⟨u,hu,ZZ⟩|wR
      · exact ha.own u (List.mem_append_left _ hu) b j ZZ
      · exact .inr (Nat.le_trans ha.keeps.size wR)
    · exact ha.own s (List.mem_append_right _ h) b j hh
theorem St.N3 {l r rc rest:List au} {w:World} (h:St (l++rest) r w) (ME:∀s ∈ rc,s ∈ rest++r):St l rc w:=by
  have hpw:=List.pairwise_append.1 h.pw;refine⟨fun s hs=>h.hl s (List.mem_append_left _ hs),fun s hs=>?_,hpw.1,fun s hs t ht=>?_⟩
  · rcases List.mem_append.1 (ME s hs) with h'|h'
    · exact h.hl s (List.mem_append_right _ h')
    · exact h.hr s h'
  · rcases List.mem_append.1 (ME t ht) with h'|h'
    · grind
    · exact h.lr s (List.mem_append_left _ hs) t h'
theorem gm {c:Call} {f:FuncId} {args:List Value} {lc rest rc:List au} {dz:Value→List au→Prop} {d:Nat} (is rs:List Nat) (uJ:aE P f args lc rc dz) (ho:o.op=.call c) (hf:c.callee=.value (.func f)) (f':evs ρ c.args.toList=some args)
    (hl:pickS is l=some (lc,rest)) (hr:pickR rs (rest++r)=some rc) (hd:o.dst=some d) (hn:Nat.blt d K.n=true):
    kC P K ρ l r o (fun ρ' l'=>∃v wy,dz v wy∧ρ'=(d,v)::ρ∧l'=wy++rest):=by
  intro a w ha nx Q mf;have hA:=ha.perm (iI _ _ _ _ hl);have ME:=uO _ _ _ hr;have hca:=uJ.run w (hA.st.N3 ME);have iJ:(c.args.map a.eval)=args.toArray:=by
    have:=oV ha.fr _ _ f';grind
  have e:(execOp a.eval o).run P w=.ok (.enter f args.toArray) w:=by
    simp[execOp,ho,resolve,hf,iJ,Act.eval,Deferred.ofValue,invoke,ng uJ.can]
  unfold Oper.wp;rw[e];simp only[Oper.upon];refine hca.mono fun e w' hE=>?_
  obtain⟨v,wy,rfl,hP,hk,ie,Dy⟩:=hE.out;simp only[hd];exact mf _ _ ⟨(d,v)::ρ,wy++rest,⟨v,wy,hP,rfl,rfl⟩,(hA.uP ME hk ie Dy).put hn v⟩
theorem nh {dz:Value→List au→Prop} {l0 l' r:List au} {w0:World} {n:Nat} {a:Act} {w:World} {ρ:aB} (h:At ⟨n,l0,w0⟩ ρ l' r a w) (hP:dz v l'):Ends dz l0 r w0 (.returned v) w:=
  ⟨v,l',rfl,hP,h.keeps,h.st,h.own⟩
variable {fn:Func} {dz:Value→List au→Prop} {l0:List au} {w0:World} {n:Nat} {p rest:List au}
theorem dG (is:List Nat) (uQ:fn.results= #[]) (hp:pickS is l=some (p,rest)) (hP:dz (.tuple #[]) p):GQ ⟨n,l0,w0⟩ (bodyPost P fn (Ends dz l0 r w0)) .normal ρ l r:=
  fun a w ha=>⟨ha.defers,_,by simp[results,uQ],nh (ha.pick is hp) hP⟩
theorem oY (is:List Nat) (uQ:fn.results= #[]) (hp:pickS is l=some (p,rest)) (hP:dz (.tuple #[]) p):GQ ⟨n,l0,w0⟩ (bodyPost P fn (Ends dz l0 r w0)) .ret ρ l r:=
  fun a w ha=>⟨ha.defers,_,by simp[results,uQ],nh (ha.pick is hp) hP⟩
theorem Bs {a:Act} (ha:sW ρ a) {t:Nat} (h:look t ρ=some v):a.tmps.getD t undef=v:=by simp[ha t v h]
theorem cy {t:Nat} (is:List Nat) (uQ:fn.results= #[.tmp t]) (hv:look t ρ=some v) (hp:pickS is l=some (p,rest)) (hP:dz v p):GQ ⟨n,l0,w0⟩ (bodyPost P fn (Ends dz l0 r w0)) .ret ρ l r:=
  fun a w ha=>⟨ha.defers,v,by rw[results_tmp uQ,Bs ha.fr hv],nh (ha.pick is hp) hP⟩
theorem jj {t1 t2:Nat} {v1 v2:Value} (is:List Nat) (uQ:fn.results= #[.tmp t1,.tmp t2]) (wB:look t1 ρ=some v1) (vJ:look t2 ρ=some v2) (hp:pickS is l=some (p,rest)) (hP:dz (.tuple #[v1,v2]) p):
    GQ ⟨n,l0,w0⟩ (bodyPost P fn (Ends dz l0 r w0)) .ret ρ l r:=
  fun a w ha=>⟨ha.defers,_,by rw[results_tmp2 uQ,Bs ha.fr wB,Bs ha.fr vJ],nh (ha.pick is hp) hP⟩
theorem jW {t1 t2 t3:Nat} {v1 v2 v3:Value} (is:List Nat) (uQ:fn.results= #[.tmp t1,.tmp t2,.tmp t3]) (wB:look t1 ρ=some v1) (vJ:look t2 ρ=some v2) (CX:look t3 ρ=some v3) (hp:pickS is l=some (p,rest)) (hP:dz (.tuple #[v1,v2,v3]) p):
    GQ ⟨n,l0,w0⟩ (bodyPost P fn (Ends dz l0 r w0)) .ret ρ l r:=
  fun a w ha=>⟨ha.defers,_,by simp[results,uQ,ha.fr _ _ wB,ha.fr _ _ vJ,ha.fr _ _ CX],nh (ha.pick is hp) hP⟩
theorem Li {t1 t2 t3 t4:Nat} {v1 v2 v3 v4:Value} (is:List Nat) (uQ:fn.results= #[.tmp t1,.tmp t2,.tmp t3,.tmp t4]) (wB:look t1 ρ=some v1) (vJ:look t2 ρ=some v2) (CX:look t3 ρ=some v3) (hv4:look t4 ρ=some v4) (hp:pickS is l=some (p,rest)) (hP:dz (.tuple #[v1,v2,v3,v4]) p):
    GQ ⟨n,l0,w0⟩ (bodyPost P fn (Ends dz l0 r w0)) .ret ρ l r:=
  fun a w ha=>⟨ha.defers,_,by simp[results,uQ,ha.fr _ _ wB,ha.fr _ _ vJ,ha.fr _ _ CX,ha.fr _ _ hv4],nh (ha.pick is hp) hP⟩
end
def aa (k:IntKind) (xs:List Nat):List Value:=xs.map fun n=>.int k ((n:Nat):Int)
def ints (k:IntKind) (xs:List Int):List Value:=xs.map fun n=>.int k n
theorem aM {k:IntKind} {xs:List Nat} {j:Nat} (h:j<xs.length):(aa k xs)[j]? =some (.int k ((xs.getD j 0:Nat):Int)):=by simp[aa,h]
theorem ix {k:IntKind} {xs:List Int} {j:Nat} (h:j<xs.length):(ints k xs)[j]? =some (.int k (xs.getD j 0)):=by simp[ints,h]
theorem s6 (k:IntKind) (xs:List Nat) (j v:Nat):(aa k xs).set j (.int k ((v:Nat):Int))=aa k (xs.set j v):=by simp[aa,List.map_set]
theorem ints_set (k:IntKind) (xs:List Int) (j:Nat) (v:Int):(ints k xs).set j (.int k v)=ints k (xs.set j v):=by simp[ints,List.map_set]
@[simp] theorem bJ (k:IntKind) (xs:List Nat):(aa k xs).length=xs.length:=by simp[aa]
@[simp] theorem Z5 (k:IntKind) (xs:List Int):(ints k xs).length=xs.length:=by simp[ints]
section
variable {P:Program} {K:Kx} {Q:Exit→Act→World→Prop} {ρ:aB} {l r:List au} {o:Oper} {v:Value} {x y z:Operand} {t s f sz n m lo hi len cap b q j:Nat} {k k':IntKind}
theorem run_loadCellsFrom {w:World} (a:Addr):∀(n i:Nat) (vs acc:Array Value),(∀j,j<n→w.cell? (a.add (i+j))=some (vs.getD j undef))→vs.size=n→(loadCellsFrom a i n acc).run P w=.ok (acc++vs) w
  |0,i,vs,acc,h,hs=>by
    have:vs= #[]:=by apply Array.eq_empty_of_size_eq_zero hs
    simp[loadCellsFrom,this]
  |n+1,i,vs,acc,h,hs=>by
    have h0:=h 0 Om;simp only[Nat.add_zero] at h0;obtain⟨L⟩:=vs;cases L with
    |nil=>simp at hs
    |cons v vs=>
      simp at hs;have ih:=run_loadCellsFrom (w:=w) a n (i+1) vs.toArray (acc.push v) (fun j hj=>by
        have:=h (j+1) Om;rw[show i+1+j=i+(j+1) by omega,this];simp) (by simp[hs])
      simp at h0;simp only[loadCellsFrom,Sem.run_bind,run_load,h0,Result.andThen_ok,ih];simp
theorem Aa {w:World} {vs:List Value} (hP:mv P t=some true) (hz:eW P t=some vs.length) (h:∀j,j<vs.length→w.cell? ⟨b,q+j,none⟩=some (vs.getD j undef)):(Instr.loadAt t (.pointer (some ⟨b,q,none⟩))).run P w=.ok (.agg vs.toArray) w:=by
  have:=run_loadCellsFrom (P:=P) (w:=w) ⟨b,q,none⟩ vs.length 0 vs.toArray #[] (fun j hj=>by rw[df,Nat.zero_add,h j hj];simp) Oi;simp[Instr.loadAt,Instr.sureAddr,loadVar,qn hP,cH hz,loadCells,this]
theorem JP {p:Addr} (ho:o.op=.load t x) (hx:ev ρ x=some (.pointer (some p))) (hP:mv P t=some true) (hz:eW P t=some 0):aH P ρ o (.agg #[]):=fun ac ha w=>by
  simp[execOp,ho,bf ha hx,Instr.loadAt,Instr.sureAddr,loadVar,qn hP,cH hz,loadCells,loadCellsFrom]
theorem xy {cs vs:List Value} {i:Nat} (hv:(cs.drop j).take n=vs) (hn:vs.length=n) (hi:i<n):cs[j+i]? =some (vs.getD i undef):=by
  grind
theorem jk {sg:au} {vs:List Value} (i j:Nat) (hs:nthS i l=some sg) (ho:o.op=.load t x) (hx:ev ρ x=some (.pointer (some ⟨sg.b,q,none⟩))) (hP:mv P t=some true) (hz:eW P t=some n) (hq:q=sg.o+j) (hv:(sg.cs.drop j).take n=vs) (hn:vs.length=n):n3 P ρ l r o (.agg vs.toArray):=fun ac w ha ie=>by
  have jO:=ie.hl sg (dq _ _ _ hs);have e:=Aa (P:=P) (w:=w) (b:=sg.b) (q:=q) (vs:=vs) hP (by rw[hz,hn]) (fun i hi=>by
    subst hq;rw[show sg.o+j+i=sg.o+(j+i) by omega];exact jO.1 (j+i) _ (xy hv hn Om))
  simp[execOp,ho,bf ha hx,e]
theorem av {sg:au} {vs:List Value} (i j:Nat) (hs:nthS i r=some sg) (ho:o.op=.load t x) (hx:ev ρ x=some (.pointer (some ⟨sg.b,q,none⟩))) (hP:mv P t=some true) (hz:eW P t=some n) (hq:q=sg.o+j) (hv:(sg.cs.drop j).take n=vs) (hn:vs.length=n):n3 P ρ l r o (.agg vs.toArray):=fun ac w ha ie=>by
  have jO:=ie.hr sg (dq _ _ _ hs);have e:=Aa (P:=P) (w:=w) (b:=sg.b) (q:=q) (vs:=vs) hP (by rw[hz,hn]) (fun i hi=>by
    subst hq;rw[show sg.o+j+i=sg.o+(j+i) by omega];exact jO.1 (j+i) _ (xy hv hn Om))
  simp[execOp,ho,bf ha hx,e]
def spl (cs:List Value) (j:Nat):List Value→List Value
  |[]=>cs
  |v::vs=>spl (cs.set j v) (j+1) vs
theorem lf:∀(vs cs:List Value) (j:Nat),(spl cs j vs).length=cs.length
  |[],_,_=>rfl
  |v::vs,cs,j=>by simp[spl,lf vs]
theorem Ab:∀(i:Nat) (s t:au) (l:List au),setS i s (setS i t l)=setS i s l
  |_,_,_,[]=>by simp[setS]
  |0,_,_,_::_=>rfl
  |n+1,s,t,_::l=>by simp[setS,Ab n s t l]
theorem Ac:∀(i:Nat) (s t:au) (l:List au),nthS i l=some t→nthS i (setS i s l)=some s
  |_,_,_,[],h=>by simp[nthS] at h
  |0,_,_,_::_,_=>rfl
  |n+1,s,t,_::l,h=>by simp only[nthS,setS] at h ⊢;exact Ac n s t l h
theorem gY:∀(i:Nat) (s:au) (l:List au),nthS i l=some s→setS i s l=l
  |_,_,[],h=>by simp[nthS] at h
  |0,_,_::_,h=>by simp[nthS] at h;simp[setS,h]
  |n+1,s,_::l,h=>by simp only[nthS,setS] at h ⊢;rw[gY n s l h]
theorem fP {a:Act}:∀(vs:List Value) (i0 j:Nat) (l:List au) (w:World) (sg:au) (i:Nat) (b q:Nat),At K ρ l r a w→nthS i l=some sg→b=sg.b→q+i0=sg.o+j→j+vs.length≤sg.cs.length→(∀v ∈ vs,v.oneCell'=true)→
    ∃w',(storeCells ⟨b,q,none⟩ vs i0).run P w=.ok () w'∧At K ρ (setS i ⟨sg.b,sg.o,spl sg.cs j vs,sg.sh⟩ l) r a w'
  |[],i0,j,l,w,sg,i,b,q,ha,hs,_,_,_,_=>⟨w,rfl,by
      have:(⟨sg.b,sg.o,spl sg.cs j [],sg.sh⟩:au)=sg:=rfl;rw[this,gY i sg l hs];exact ha⟩
  |v::vs,i0,j,l,w,sg,i,b,q,ha,hs,hb,hq,hj,hv=>by
    simp only[List.length_cons] at hj;subst hb;have h1:=ha.store hs (j:=j) Om v;have jO:=ha.st.hl sg (dq _ _ _ hs);have ld:w.cell? ⟨sg.b,sg.o+j,none⟩=some (sg.cs[j]' Om):=jO.1 j _ Oi;obtain⟨w',hr,hA⟩:=fP vs (i0+1) (j+1) _ _ ⟨sg.b,sg.o,sg.cs.set j v,sg.sh⟩ i sg.b q h1 (Ac i _ _ _ hs) rfl (show q+(i0+1)=sg.o+(j+1) by omega) Oz (fun u hu=>hv u (List.mem_cons_of_mem _ hu));refine⟨w',?_,by rw[Ab] at hA;exact hA⟩;simp only[storeCells,Sem.run_bind,df,hq,vI (P:=P) (hv v List.mem_cons_self) ld (jO.2.1 j Om),Result.andThen_ok];exact hr
theorem kD {sg:au} {vs:List Value} (i j:Nat) {gU:List Value} (hs:nthS i l=some sg) (ho:o.op=.store t x y) (hx:ev ρ x=some (.pointer (some ⟨sg.b,q,none⟩))) (hy:ev ρ y=some (.agg vs.toArray)) (hP:eW P t=some n) (hn:vs.length=n) (hv:(vs.all fun u=>u.oneCell')=true)
    (hq:q=sg.o+j) (hj:j+n≤sg.cs.length) (hd:o.dst=none) (hc:spl sg.cs j vs=gU):kC P K ρ l r o (fun ρ' l'=>ρ'=ρ∧l'=setS i ⟨sg.b,sg.o,gU,sg.sh⟩ l):=by
  intro a w ha nx Q mf;obtain⟨w',hr,hA⟩:=fP (P:=P) vs 0 j l w sg i sg.b q ha hs rfl Om Om (fun u hu=>List.all_eq_true.1 hv u hu);unfold Oper.wp;have e:(execOp a.eval o).run P w=.ok .skip w':=by
    simp[execOp,ho,bf ha.fr hx,bf ha.fr hy,Instr.storeAt,Instr.sureAddr,storeVar,cH hP,Value.cells,hn,hr]
  rw[e];simp only[Oper.upon,hd,Act.put];grind
theorem dg {q':Nat} (ho:o.op=.slice t x (some y) none none) (hx:ev ρ x=some (.slice (some ⟨b,q,none⟩) len cap)) (hy:ev ρ y=some (.int k (lo:Nat))) (hP:cJ P t=some sz) (h:lo≤len∧lo<cap) (hq:q+lo*sz=q'):aH P ρ o (.slice (some ⟨b,q',none⟩) (len-lo) (cap-lo)):=by
  subst hq;intro ac ha w;unfold cJ at hP;cases hu:P.underlying t with
  |none=>simp[hu] at hP
  |some D=>
    cases D<;>simp[hu] at hP;simp[execOp,ho,bf ha hx,bf ha hy,Instr.sliceAt,aK hu,Instr.slice,Instr.sliceBounds,Instr.sliceBound,asIntOf,cH hP,h.1,df,show¬cap=lo by omega]
theorem rn (ho:o.op=.slice t x none (some y) none) (hx:ev ρ x=some (.slice (some ⟨b,q,none⟩) len cap)) (hy:ev ρ y=some (.int k (hi:Nat))) (hP:cJ P t=some sz) (h:hi≤cap):aH P ρ o (.slice (some ⟨b,q,none⟩) hi cap):=fun ac ha w=>by
  unfold cJ at hP;cases hu:P.underlying t with
  |none=>simp[hu] at hP
  |some D=>
    cases D<;>simp[hu] at hP;simp[execOp,ho,bf ha hx,bf ha hy,Instr.sliceAt,aK hu,Instr.slice,Instr.sliceBounds,Instr.sliceBound,asIntOf,cH hP,h,df]
theorem jl {q':Nat} (ho:o.op=.slice t x (some y) (some z) none) (hx:ev ρ x=some (.slice (some ⟨b,q,none⟩) len cap)) (hy:ev ρ y=some (.int k (lo:Nat))) (hz:ev ρ z=some (.int k' (hi:Nat))) (hP:cJ P t=some sz) (h:lo≤hi∧hi≤cap∧lo<cap) (hq:q+lo*sz=q'):aH P ρ o (.slice (some ⟨b,q',none⟩) (hi-lo) (cap-lo)):=by
  subst hq;intro ac ha w;unfold cJ at hP;cases hu:P.underlying t with
  |none=>simp[hu] at hP
  |some D=>
    cases D<;>simp[hu] at hP;simp[execOp,ho,bf ha hx,bf ha hy,bf ha hz,Instr.sliceAt,aK hu,Instr.slice,Instr.sliceBounds,Instr.sliceBound,asIntOf,cH hP,h.1,h.2.1,df,show¬cap=lo by omega]
theorem vK (ho:o.op=.slice t x none none none) (hx:ev ρ x=some (.pointer (some ⟨b,q,none⟩))) (hP:gX P t=some (n,sz)):aH P ρ o (.slice (some ⟨b,q,none⟩) n n):=fun ac ha w=>by
  unfold gX at hP;cases hu:P.underlying t with
  |none=>simp[hu] at hP
  |some D=>
    cases D<;>simp[hu] at hP;obtain⟨h1,rfl⟩:=hP;simp[execOp,ho,bf ha hx,Instr.sliceAt,aK hu,Instr.sliceBounds,Instr.sureAddr,cH h1,df]
theorem ab2 (ho:o.op=.slice t x none (some y) none) (hx:ev ρ x=some (.pointer (some ⟨b,q,none⟩))) (hy:ev ρ y=some (.int k (hi:Nat))) (hP:gX P t=some (n,sz)) (h:hi≤n):aH P ρ o (.slice (some ⟨b,q,none⟩) hi n):=fun ac ha w=>by
  unfold gX at hP;cases hu:P.underlying t with
  |none=>simp[hu] at hP
  |some D=>
    cases D<;>simp[hu] at hP;obtain⟨h1,rfl⟩:=hP;simp[execOp,ho,bf ha hx,bf ha hy,Instr.sliceAt,aK hu,Instr.sliceBounds,Instr.sliceBound,asIntOf,Instr.sureAddr,cH h1,df,h]
theorem At.alloc {a:Act} {w:World} (h:At K ρ l r a w) (cs:Array Value) (T:TypeId):At K ρ (⟨w.heap.size,0,cs.toList,some (T,cs.size)⟩::l) r a (w.alloc (.cells cs T)):=by
  have hk:fH [] w (w.alloc (.cells cs T)):=fH.alloc [] w _;have as3:(⟨w.heap.size,0,cs.toList,some (T,cs.size)⟩:au).oz (w.alloc (.cells cs T)):=by
    refine⟨fun j v hj=>?_,fun j hj=>?_,fun x hx=>?_⟩
    · simp_all
    · simp_all
    · have hx':some (T,cs.size)=some x:=hx;rw[←hx'];show(match (w.heap.push (.cells cs T))[w.heap.size]? with|some (.cells c elem _)=>some (elem,c.size)|_=>none)=_;grind
  have wx:∀s:au,s.oz w→∀b j:Nat,s.has b j→¬(⟨w.heap.size,0,cs.toList,some (T,cs.size)⟩:au).has b j:=fun s hs b j h1 h2=>by
    have:=hs.lt h1;have:=h2.1;grind
  refine⟨h.size,h.defers,h.fr,h.keeps.trans' hk Oi,⟨?_,fun s hs=>(h.st.hr s hs).iG hk Oi,?_,?_⟩,?_⟩
  · intro s hs;rcases List.mem_cons.1 hs with h'|h'
    · grind
    · exact(h.st.hl s h').iG hk Oi
  · exact List.Pairwise.cons (fun s hs b j h1 h2=>wx s (h.st.hl s hs) b j h2 h1) h.st.pw
  · intro s hs t ht;rcases List.mem_cons.1 hs with h'|h'
    · subst h';exact fun b j h1 h2=>wx t (h.st.hr t ht) b j h2 h1
    · exact h.st.lr s h' t ht
  · intro s hs b j hh;rcases List.mem_cons.1 hs with h'|h'
    · subst h';right;have:=hh.1;simp at this;have:=h.keeps.size;omega
    · exact h.own s h' b j hh
def Dz:Value→List Value
  | .agg cs=>cs.toList
  |v=>[v]
theorem DA (v:Value):v.cells.toList=Dz v:=by cases v<;>rfl
theorem jS {d:Nat} {cs:List Value} (ho:o.op=.box t x) (hx:ev ρ x=some v) (hc:Dz v=cs) (hd:o.dst=some d) (hn:Nat.blt d K.n=true):
    kC P K ρ l r o (fun ρ' l'=>∃b,ρ'=(d,.pointer (some ⟨b,0,none⟩))::ρ∧l'=⟨b,0,cs,some (t,cs.length)⟩::l):=by
  intro a w ha nx Q mf;unfold Oper.wp;have e:(execOp a.eval o).run P w=.ok (.value (.pointer (some ⟨w.heap.size,0,none⟩))) (w.alloc (.cells v.cells t)):=by
    simp[execOp,ho,bf ha.fr hx,Instr.box,newVar,newRow]
  rw[e];simp only[Oper.upon,hd];refine mf _ _ ⟨_,_,⟨w.heap.size,rfl,rfl⟩,?_⟩;have h1:=(ha.alloc v.cells t).put hn (.pointer (some ⟨w.heap.size,0,none⟩));grind [DA]
theorem Lj {e:Nat} {ty:TypeId} {p:Option Addr} (hu:P.underlying ty=some (.pointer e)) (w:World) (d:Nat):(Op.equalIn (d+1) ty (.pointer p) (.pointer none)).run P w=.ok p.isNone w:=by
  cases p<;>simp[Op.equalIn,aK hu]
theorem Lk {ms:Array (String × TypeId)} {ty:TypeId} (hu:P.underlying ty=some (.interface ms)) (w:World) (d:Nat):(Op.equalIn (d+1) ty .nilIface .nilIface).run P w=.ok true w:=by
  simp[Op.equalIn,aK hu]
theorem Ll {ms:Array (String × TypeId)} {ty T:TypeId} {u:Value} (hu:P.underlying ty=some (.interface ms)) (w:World) (d:Nat):(Op.equalIn (d+1) ty (.iface T u) .nilIface).run P w=.ok false w:=by
  simp[Op.equalIn,aK hu]
theorem Gl {e:Nat} {ty:TypeId} {p:Option Addr} (hu:P.underlying ty=some (.pointer e)) (w:World):(Op.equal ty (.pointer p) (.pointer none)).run P w=.ok p.isNone w:=Lj hu w 9999
theorem N4 {ms:Array (String × TypeId)} {ty:TypeId} (hu:P.underlying ty=some (.interface ms)) (w:World):(Op.equal ty .nilIface .nilIface).run P w=.ok true w:=Lk hu w 9999
theorem N5 {ms:Array (String × TypeId)} {ty T:TypeId} {u:Value} (hu:P.underlying ty=some (.interface ms)) (w:World):(Op.equal ty (.iface T u) .nilIface).run P w=.ok false w:=Ll hu w 9999
theorem ni {bo:BinOp} {u c:Value} {bb:Bool} {ty bY:TypeId} (hb:bo=.eql∨bo=.neq) (ho:o.op=.binOp bo ty x (.const c) bY) (hx:ev ρ x=some u) (hc:(∃p,u=.pointer p∧c=.pointer none)∨(c=.nilIface∧(u=.nilIface∨∃T q,u=.iface T q))) (h:∀w,(Op.equal ty u c).run P w=.ok bb w):aH P ρ o (.bool (if bo=.eql then bb else !bb)):=fun ac ha w=>by
  have hg:(eqGuard bo ty x (.const c) u c).run P w=.ok () w:=by
    unfold eqGuard;rcases hb with rfl|rfl<;>rcases hc with ⟨p,rfl,rfl⟩|⟨rfl,rfl|⟨T,q,rfl⟩⟩<;>simp
  have hr:(binOp bo ty u c).run P w=.ok (.bool (if bo=.eql then bb else !bb)) w:=by
    rcases hb with rfl|rfl<;>rcases hc with ⟨p,rfl,rfl⟩|⟨rfl,rfl|⟨T,q,rfl⟩⟩<;>simp[binOp,h]
  have ab3:ac.eval (.const c)=c:=rfl;simp only[execOp,ho,bf ha hx,ab3,Sem.run_bind,hg,hr,Result.andThen_ok,Sem.run_pure]
theorem Gm {p:Addr} {e:Nat} {ty bY:TypeId} (ho:o.op=.binOp .eql ty x (.const (.pointer none)) bY) (hx:ev ρ x=some (.pointer (some p))) (hu:P.underlying ty=some (.pointer e)):aH P ρ o (.bool false):=ni (.inl rfl) ho hx (.inl ⟨_,rfl,rfl⟩) (Gl hu)
theorem Gn {p:Addr} {e:Nat} {ty bY:TypeId} (ho:o.op=.binOp .neq ty x (.const (.pointer none)) bY) (hx:ev ρ x=some (.pointer (some p))) (hu:P.underlying ty=some (.pointer e)):aH P ρ o (.bool true):=ni (.inr rfl) ho hx (.inl ⟨_,rfl,rfl⟩) (Gl hu)
theorem oZ {e:Nat} {ty bY:TypeId} (ho:o.op=.binOp .eql ty x (.const (.pointer none)) bY) (hx:ev ρ x=some (.pointer none)) (hu:P.underlying ty=some (.pointer e)):aH P ρ o (.bool true):=ni (.inl rfl) ho hx (.inl ⟨_,rfl,rfl⟩) (Gl hu)
theorem xz {ms:Array (String × TypeId)} {ty bY:TypeId} (ho:o.op=.binOp .eql ty x (.const .nilIface) bY) (hx:ev ρ x=some .nilIface) (hu:P.underlying ty=some (.interface ms)):aH P ρ o (.bool true):=ni (.inl rfl) ho hx (.inr ⟨rfl,.inl rfl⟩) (N4 hu)
theorem dj {ms:Array (String × TypeId)} {ty bY:TypeId} (ho:o.op=.binOp .neq ty x (.const .nilIface) bY) (hx:ev ρ x=some .nilIface) (hu:P.underlying ty=some (.interface ms)):aH P ρ o (.bool false):=ni (.inr rfl) ho hx (.inr ⟨rfl,.inl rfl⟩) (N4 hu)
theorem uR {ms:Array (String × TypeId)} {T:TypeId} {u:Value} {ty bY:TypeId} (ho:o.op=.binOp .eql ty x (.const .nilIface) bY) (hx:ev ρ x=some (.iface T u)) (hu:P.underlying ty=some (.interface ms)):aH P ρ o (.bool false):=ni (.inl rfl) ho hx (.inr ⟨rfl,.inr ⟨_,_,rfl⟩⟩) (N5 hu)
theorem gZ {ms:Array (String × TypeId)} {T:TypeId} {u:Value} {ty bY:TypeId} (ho:o.op=.binOp .neq ty x (.const .nilIface) bY) (hx:ev ρ x=some (.iface T u)) (hu:P.underlying ty=some (.interface ms)):aH P ρ o (.bool true):=ni (.inr rfl) ho hx (.inr ⟨rfl,.inr ⟨_,_,rfl⟩⟩) (N5 hu)
theorem Bt {sb:ByteArray} {c:Nat} {t:Nat} (ho:o.op=.index t x y) (hx:ev ρ x=some (.string sb)) (hy:ev ρ y=some (.int k (m:Nat))) (hu:P.underlying t=some .string) (h:sb[m]?.map UInt8.toNat=some c):aH P ρ o (.int .u8 ((c:Nat):Int)):=fun ac ha w=>by
  cases hs:sb[m]? with
  |none=>rw[hs] at h;simp at h
  |some b=>
    rw[hs] at h;simp at h;simp[execOp,ho,bf ha hx,bf ha hy,Instr.index,asIntOf,aK hu,hs,h]
theorem kK {a:Call} {ac:Act} (ha:sW ρ ac) {vs:List Value} (h:evs ρ a.args.toList=some vs):a.args.map ac.eval=vs.toArray:=by
  apply Array.toList_inj.1;simpa using oV ha _ _ h
theorem Z8 {p:Option Addr} {a:Call} (ho:o.op=.call a) (hc:a.callee=.builtin .len) (hx:evs ρ a.args.toList=some [.slice p len cap]) (ht:a.argTypes= #[t]) (hu:P.underlying t=some (.slice s)):aH P ρ o (.int .i64 ((len:Nat):Int)):=fun ac hac w=>by
  simp[execOp,ho,resolve,hc,kK hac hx,invoke,builtin,Builtin.len_,ht,aK hu,goInt]
theorem ajK {p:Option Addr} {a:Call} (ho:o.op=.call a) (hc:a.callee=.builtin .cap) (hx:evs ρ a.args.toList=some [.slice p len cap]) (ht:a.argTypes= #[t]) (hu:P.underlying t=some (.slice s)):aH P ρ o (.int .i64 ((cap:Nat):Int)):=fun ac hac w=>by
  simp[execOp,ho,resolve,hc,kK hac hx,invoke,builtin,Builtin.cap_,ht,aK hu,goInt]
end
section
variable {P:Program} {K:Kx} {Q:Exit→Act→World→Prop} {ρ:aB} {l r:List au} {o:Oper} {v:Value} {x y z:Operand} {t s f sz n m c lo hi len cap b q j d:Nat} {k k':IntKind}
theorem At.lJ {a:Act} {w:World} {s:au} (h:At K ρ (s::l) r a w):At K ρ (⟨s.b,s.o,s.cs,none⟩::l) r a w:=by
  refine⟨h.size,h.defers,h.fr,h.keeps,⟨?_,h.st.hr,?_,?_⟩,?_⟩
  · intro u hu;rcases List.mem_cons.1 hu with h'|h'
    · subst h';have:=h.st.hl s List.mem_cons_self;exact⟨this.1,this.2.1,fun x hx=>by cases hx⟩
    · exact h.st.hl u (List.mem_cons_of_mem _ h')
  · have:=List.pairwise_cons.1 h.st.pw;exact List.Pairwise.cons (fun u hu=>this.1 u hu) this.2
  · intro u hu t ht;rcases List.mem_cons.1 hu with h'|h'
    · subst h';exact h.st.lr s List.mem_cons_self t ht
    · exact h.st.lr u (List.mem_cons_of_mem _ h') t ht
  · intro u hu b j hh;rcases List.mem_cons.1 hu with h'|h'
    · subst h';exact h.own s List.mem_cons_self b j hh
    · exact h.own u (List.mem_cons_of_mem _ h') b j hh
theorem uS:∀(i:Nat) (s t:au) (l:List au),nthS i l=some t→(s::l).Perm (setS i s l++[t])
  |_,_,_,[],h=>by simp[nthS] at h
  |0,s,t,u::l,h=>by
    simp[nthS] at h;subst h;simp only[setS,List.cons_append];exact(List.perm_append_comm (l₁:=[u]) (l₂:=l)).cons s
  |n+1,s,t,u::l,h=>by
    simp only[nthS,setS] at h ⊢;exact(List.Perm.swap u s l).trans ((uS n s t l h).cons u)
theorem At.ab4 {a:Act} {w:World} {s t:au} {i:Nat} (h:At K ρ (s::l) r a w) (hi:nthS i l=some t):At K ρ (setS i s l) r a w:=(h.perm (uS i s t l hi)).left
theorem At.empty {a:Act} {w:World} (h:At K ρ l r a w) (b o:Nat):At K ρ (⟨b,o,[],none⟩::l) r a w:=by
  have no:∀b' j:Nat,¬(⟨b,o,[],none⟩:au).has b' j:=fun b' j hh=>by have:=hh.2;simp at this;omega
  refine⟨h.size,h.defers,h.fr,h.keeps,⟨?_,h.st.hr,?_,?_⟩,?_⟩
  · intro u hu;rcases List.mem_cons.1 hu with h'|h'
    · subst h';exact⟨fun j v hj=>by simp at hj,fun j hj=>by simp at hj,fun x hx=>by cases hx⟩
    · exact h.st.hl u h'
  · exact List.Pairwise.cons (fun u hu b j h1 _=>no b j h1) h.st.pw
  · intro u hu t ht;rcases List.mem_cons.1 hu with h'|h'
    · subst h';exact fun b j h1 _=>no b j h1
    · exact h.st.lr u h' t ht
  · intro u hu b j hh;rcases List.mem_cons.1 hu with h'|h'
    · grind
    · exact h.own u h' b j hh
theorem GQ.DB {e:Exit} (h:GQ K Q e ρ (⟨0,0,[],none⟩::l) r):GQ K Q e ρ l r:=fun a w ha=>h a w (ha.empty 0 0)
theorem as4 {cs:List Value} (ho:o.op=.alloc t) (hz:vH P t=some cs) (hd:o.dst=some d) (hn:Nat.blt d K.n=true):
    kC P K ρ l r o (fun ρ' l'=>∃b,ρ'=(d,.pointer (some ⟨b,0,none⟩))::ρ∧l'=⟨b,0,cs,none⟩::l):=by
  intro a w ha nx Q mf;unfold vH at hz;cases hi:P.info? t with
  |none=>simp[hi] at hz
  |some i=>
    cases rM:i.zero with
    |none=>simp[hi,rM] at hz
    |some zv=>
      simp[hi,rM] at hz;unfold Oper.wp;have e:(execOp a.eval o).run P w=.ok (.value (.pointer (some ⟨w.heap.size,0,none⟩))) (w.alloc (.cells zv.cells t)):=by
        simp[execOp,ho,Instr.alloc,zeroValue,kj hi,rM,newVar,newRow]
      rw[e];simp only[Oper.upon,hd];refine mf _ _ ⟨_,_,⟨w.heap.size,rfl,rfl⟩,?_⟩;have h1:=((ha.alloc zv.cells t).lJ).put hn (.pointer (some ⟨w.heap.size,0,none⟩));grind
def ez (P:Program) (t:Nat):Option (Nat × List Value × Nat × Nat):=
  match P.underlying t with
  |some (.slice e)=>(P.info? e).bind fun i=>i.zero.map fun z=>(e,z.cells.toList,i.size,i.bytes)
  |_=>none
theorem gq {e mW:Nat} {zs:List Value} (h:ez P t=some (e,zs,sz,mW)):∃i z,P.underlying t=some (.slice e)∧P.info? e=some i∧i.zero=some z∧z.cells.toList=zs∧i.size=sz∧i.bytes=mW:=by
  unfold ez at h;cases hu:P.underlying t with
  |none=>simp[hu] at h
  |some D=>
    cases D<;>simp[hu] at h;rename_i e';cases hi:P.info? e' with
    |none=>simp[hi] at h
    |some i=>
      cases hz:i.zero with
      |none=>simp[hi,hz] at h
      |some z=>
        grind
theorem Ad (zs:List Value) (hz:0<zs.length):∀c,(List.range (c*zs.length)).map (fun i=>zs.toArray[i%zs.toArray.size]!)=(List.replicate c zs).flatten
  |0=>by simp
  |c+1=>by
    rw[Nat.add_mul,Nat.one_mul,List.range_add,List.map_append,Ad zs hz c,List.replicate_succ',List.flatten_append];congr 1;simp only[List.map_map,List.flatten_cons,List.flatten_nil,List.append_nil];apply List.ext_getElem
    · simp
    · intro i h1 h2;simp at h1;simp[Nat.mod_eq_of_lt h1,h1,getElem!_pos]
theorem xA {zv:Value} {zs:List Value} (h:zv.cells.toList=zs) (hz:zs.length=sz) (h0:0<sz) (c:Nat):(madeCells zv.cells (c*sz)).toList=(List.replicate c zs).flatten:=by
  subst hz;have:zv.cells=zs.toArray:=by apply Array.toList_inj.1;simpa using h
  rw[this];simp only[madeCells,Array.toList_map,Array.toList_range];grind [Ad]
theorem Ae {kl kc:IntKind} {e mW:Nat} {zs:List Value} (ho:o.op=.makeSlice t x y) (hx:ev ρ x=some (.int kl ((m:Nat):Int))) (hy:ev ρ y=some (.int kc ((c:Nat):Int))) (hP:ez P t=some (e,zs,sz,mW)) (hz:zs.length=sz) (h0:0<sz) (h:m≤c∧mW*c≤281474976710656∧c≤9223372036854775807) (hd:o.dst=some d) (hn:Nat.blt d K.n=true):
    kC P K ρ l r o (fun ρ' l'=>∃b,ρ'=(d,.slice (some ⟨b,0,none⟩) m c)::ρ∧l'=⟨b,0,(List.replicate c zs).flatten,none⟩::l):=by
  intro a w ha nx Q mf;obtain⟨i,zv,hu,hi,rM,lK,vL,hby⟩:=gq hP;unfold Oper.wp;have hb:(i.bytes:Int)*((c:Nat):Int)≤281474976710656:=by
    grind
  have hr:=run_make (P:=P) w t e i zv hu hi rM kl kc m c Om Om hb Om;simp only[Int.toNat_natCast,vL] at hr;have he:(execOp a.eval o).run P w=.ok (.value (.slice (some ⟨w.heap.size,0,none⟩) m c)) (w.alloc (.cells (madeCells zv.cells (c*sz)) e)):=by
    simp[execOp,ho,bf ha.fr hx,bf ha.fr hy,hr]
  rw[he];simp only[Oper.upon,hd];refine mf _ _ ⟨_,_,⟨w.heap.size,rfl,rfl⟩,?_⟩;have h1:=((ha.alloc (madeCells zv.cells (c*sz)) e).lJ).put hn (.slice (some ⟨w.heap.size,0,none⟩) m c);grind [xA]
theorem as5 {kl kc:IntKind} {e mW:Nat} {z:Value} (ho:o.op=.makeSlice t x y) (hx:ev ρ x=some (.int kl ((m:Nat):Int))) (hy:ev ρ y=some (.int kc ((c:Nat):Int))) (hP:ez P t=some (e,[z],1,mW)) (h:m≤c∧mW*c≤281474976710656∧c≤9223372036854775807) (hd:o.dst=some d) (hn:Nat.blt d K.n=true):
    kC P K ρ l r o (fun ρ' l'=>∃b,ρ'=(d,.slice (some ⟨b,0,none⟩) m c)::ρ∧l'=⟨b,0,List.replicate c z,none⟩::l):=by
  have:=Ae (K:=K) (l:=l) (r:=r) ho hx hy hP rfl Om h hd hn;simp_all
structure GS (q:Option Addr) (b o:Nat) (cs:List Value) (sz cap:Nat):Prop where
  len:cs.length=cap*sz
  ad:q=some ⟨b,o,none⟩∨(q=none∧cap=0)
theorem GS.ay {q:Option Addr} {b o:Nat} {cs:List Value} (h:GS q b o cs sz cap) (hc:0<cap):q=some ⟨b,o,none⟩:=by
  rcases h.ad with h'|⟨_,h'⟩
  · exact h'
  · omega
def Src (l r:List au) (q:Option Addr) (news:List Value):Prop:=news=[]∨∃sg ∈ l++r,∃j,q=some ⟨sg.b,sg.o+j,none⟩∧(sg.cs.drop j).take news.length=news
theorem Src.mw {sg:au} {q2:Option Addr} {news:List Value} (i j:Nat) (hs:nthS i l=some sg) (hq:q2=some ⟨sg.b,sg.o+j,none⟩) (hv:(sg.cs.drop j).take news.length=news):Src l r q2 news:=
  .inr ⟨sg,List.mem_append_left _ (dq _ _ _ hs),j,hq,hv⟩
theorem Src.ofR {sg:au} {q2:Option Addr} {news:List Value} (i j:Nat) (hs:nthS i r=some sg) (hq:q2=some ⟨sg.b,sg.o+j,none⟩) (hv:(sg.cs.drop j).take news.length=news):Src l r q2 news:=
  .inr ⟨sg,List.mem_append_right _ (dq _ _ _ hs),j,hq,hv⟩
theorem Src.cells {q:Option Addr} {news:List Value} {a:Act} {w:World} (h:Src l r q news) (ha:At K ρ l r a w):news=[]∨∃ad,q=some ad∧∀j u,news[j]? =some u→w.cell? (ad.add j)=some u:=by
  rcases h with h|⟨sg,hm,j,hq,hv⟩
  · exact .inl h
  · refine .inr ⟨_,hq,fun i u hu=>?_⟩;have jO:sg.oz w:=by
      rcases List.mem_append.1 hm with h|h
      · exact ha.st.hl sg h
      · exact ha.st.hr sg h
    have hi:i<news.length:=(List.getElem?_eq_some_iff.1 hu).1;have hc:sg.cs[j+i]? =some u:=by
      grind
    rw[df,Nat.add_assoc];exact jO.1 _ _ hc
theorem uT:∀(vs cs:List Value) (j:Nat),j+vs.length≤cs.length→spl cs j vs=cs.take j++vs++cs.drop (j+vs.length)
  |[],cs,j,h=>by simp[spl]
  |v::vs,cs,j,h=>by
    simp only[List.length_cons] at h;simp only[spl,List.length_cons];rw[uT vs (cs.set j v) (j+1) Oz];rw[List.drop_set,if_pos Om,List.take_set];have e1:(cs.take (j+1)).set j v=cs.take j++[v]:=by
      rw[List.take_succ_eq_append_getElem Om,List.set_append_right _ _ Oz];have:j-(List.take j cs).length=0:=by simp;omega
      rw[this];rfl
    grind
theorem DC (vs cs:List Value) (j:Nat) (h:j+vs.length≤cs.length):(spl cs j vs).take (j+vs.length)=cs.take j++vs:=by
  grind [uT]
theorem iK:∀(i:Nat) (s t:au) (l:List au),nthS i l=some t→(setS i s l).Perm (s::l.eraseIdx i)
  |_,_,_,[],h=>by simp[nthS] at h
  |0,s,t,u::l,h=>by simp[setS]
  |i+1,s,t,u::l,h=>by
    simp only[setS,List.eraseIdx_cons_succ];exact((iK i s t l (by simpa [nthS] using h)).cons u).trans (.swap _ _ _)
theorem ajL {ca:Call} {q q2:Option Addr} {b o' c2 e mW:Nat} {cs zs news:List Value} {sh:Option (TypeId × Nat)} (i:Nat) (ho:o.op=.call ca) (hc:ca.callee=.builtin .append) (f':evs ρ ca.args.toList=some [.slice q n cap,.slice q2 m c2]) (uB:ca.argTypes= #[t,t]) (hP:ez P t=some (e,zs,sz,mW)) (hz:zs.length=sz)
    (hs:nthS i l=some ⟨b,o',cs,sh⟩) (hg:GS q b o' cs sz cap) (nk:Src l r q2 news) (hn:n≤cap∧0<sz∧(n+m)*mW≤140737488355328∧n+m≤9223372036854775807) (hlen:news.length=m*sz) (h1:(news.all fun u=>u.oneCell')=true) (hd:o.dst=some d) (rG:Nat.blt d K.n=true):
    kC P K ρ l r o (fun ρ' l'=>∃q' b' o' gU gk,GS q' b' o' gU sz gk∧n+m≤gk∧gU.take ((n+m)*sz)=cs.take (n*sz)++news∧ρ'=(d,.slice q' (n+m) gk)::ρ∧l'=setS i ⟨b',o',gU,none⟩ l):=by
  intro a w ha nx Q mf;obtain⟨JQ,h0,hby,VT⟩:=hn;obtain⟨i',zv,hu,hi,rM,lK,vL,DD⟩:=gq hP;have rN:∀w,(sizeOf e).run P w=.ok sz w:=cH (by simp[eW,hi,vL]);have iJ:=kK ha.fr f';have WZ:∀u ∈ news,u.oneCell'=true:=fun u hu=>List.all_eq_true.1 h1 u hu
  have kE:∀(u:Value) (w':World),(Builtin.append_ #[t,t] o.type #[.slice q n cap,.slice q2 m c2]).run P w=.ok u w'→(execOp a.eval o).run P w=.ok (.value u) w':=fun u w' h=>by
    simp[execOp,ho,resolve,hc,iJ,invoke,builtin,uB,h]
  have Af:zv.cells.size=sz:=by rw[←hz, ←lK];simp
  have Z9:cs.length=cap*sz:=hg.len;unfold Oper.wp;by_cases jm:n+m≤cap
  · -- within the room
    have hle:(n+m)*sz≤cap*sz:=Nat.mul_le_mul_right _ jm;rw[Nat.add_mul] at hle;have fin:∀(w':World) (q':Option Addr),At K ρ (setS i ⟨b,o',spl cs (n*sz) news,none⟩ l) r a w'→q'=q→
        nx (a.put (some d) (.slice q' (n+m) cap)) w':=fun w' q' hA hq'=>by
      subst hq';refine mf _ _ ⟨_,_,⟨q',b,o',spl cs (n*sz) news,cap,⟨by rw[lf];exact Z9,hg.ad⟩,jm,?_,rfl,rfl⟩,hA.put rG _⟩;grind [DC]
    have as6:∀w',At K ρ (setS i ⟨b,o',spl cs (n*sz) news,sh⟩ l) r a w'→At K ρ (setS i ⟨b,o',spl cs (n*sz) news,none⟩ l) r a w':=fun w' hA=>by
      exact((hA.perm (iK i _ _ l hs)).lJ).perm (iK i _ _ l hs).symm
    rcases nk.cells ha with DE|⟨ad,N6,jn⟩
    · -- nothing is appended
      subst DE;have hm:m=0:=by
        rcases Nat.mul_eq_zero.1 (show m*sz=0 by simpa using hlen.symm) with h|h
        · exact h
        · omega
      subst hm;have DF:(Builtin.firstCells sz 0 (.slice q2 0 c2)).run P w=.ok #[] w:=by
        cases q2<;>simp[Builtin.firstCells,loadCells,loadCellsFrom]
      have hr:(Builtin.append_ #[t,t] o.type #[.slice q n cap,.slice q2 0 c2]).run P w=.ok (.slice q (n+0) cap) w:=by
        cases q<;>simp[Builtin.append_,aK hu,rN,Builtin.lenOf,jm,JQ,DF,storeCells]
      rw[kE _ _ hr];simp only[Oper.upon,hd];grind [spl,au,gY]
    · by_cases MF:m=0
      · subst MF;simp at hlen;subst hlen;have DF:(Builtin.firstCells sz 0 (.slice q2 0 c2)).run P w=.ok #[] w:=by
          cases q2<;>simp[Builtin.firstCells,loadCells,loadCellsFrom]
        have hr:(Builtin.append_ #[t,t] o.type #[.slice q n cap,.slice q2 0 c2]).run P w=.ok (.slice q (n+0) cap) w:=by
          cases q<;>simp[Builtin.append_,aK hu,rN,Builtin.lenOf,jm,JQ,DF,storeCells]
        rw[kE _ _ hr];simp only[Oper.upon,hd];grind [spl,au,gY]
      · have hq:q=some ⟨b,o',none⟩:=hg.ay Om;subst hq;subst N6;have DF:=run_firstCells_some (P:=P) w sz m ad m c2 news hlen jn;obtain⟨w',W4,hA⟩:=fP (P:=P) news 0 (n*sz) l w ⟨b,o',cs,sh⟩ i b (o'+n*sz) ha hs rfl Oi Oz WZ;have hr:(Builtin.append_ #[t,t] o.type #[.slice (some ⟨b,o',none⟩) n cap,.slice (some ad) m c2]).run P w=.ok (.slice (some ⟨b,o',none⟩) (n+m) cap) w':=by
          simp[Builtin.append_,aK hu,rN,Builtin.lenOf,jm,DF,df,W4]
        rw[kE _ _ hr];simp only[Oper.upon,hd];grind
  · -- it grows
    have MF:0<m:=Om;have ajM:news≠[]:=by
      intro e;subst e;rcases Nat.mul_eq_zero.1 (show m*sz=0 by simpa using hlen.symm) with h|h<;>omega
    rcases nk.cells ha with DE|⟨ad,N6,jn⟩
    · grind
    subst N6;have N7:Builtin.nextslicecap (n+m) cap*i'.bytes≤281474976710656:=growslice_fits Om (by rw[DD];exact hby);have fin:∀(C:Nat) (rO rest:List Value),n+m≤C→rO=cs.take (n*sz)→rest.length=(C-(n+m))*sz→
        nx (a.put (some d) (.slice (some ⟨w.heap.size,0,none⟩) (n+m) C)) (w.drew.alloc (.cells (rO.toArray++news.toArray++rest.toArray) e)):=fun C rO rest hC ho' hr=>by
      have hA:=((ha.drew.alloc (rO.toArray++news.toArray++rest.toArray) e).lJ).ab4 hs;have hol:rO.length=n*sz:=by
        simp_all
      have hCC:C*sz=(n+m)*sz+(C-(n+m))*sz:=by rw[←Nat.add_mul];congr 1;omega
      refine mf _ _ ⟨_,_,⟨some ⟨w.heap.size,0,none⟩,w.heap.size,0,(rO.toArray++news.toArray++rest.toArray).toList,C,⟨?_,.inl rfl⟩,hC,?_,rfl,rfl⟩,hA.put rG _⟩
      · grind
      · have h2:(n+m)*sz=(rO++news).length:=by simp[hol,hlen,Nat.add_mul]
        grind
    have wR:=grownCap_ge w (n+m) cap e;have DG:∀N,(Builtin.zeroCells zv.cells N).toList.length=N*sz:=fun N=>by simp[Builtin.zeroCells,Af]
    rcases hg.ad with hq|⟨hq,wC⟩
    · subst hq;have vD:∀j u,(cs.take (n*sz))[j]? =some u→w.cell? ((⟨b,o',none⟩:Addr).add j)=some u:=fun j u hj=>by
        rw[df];have jO:=ha.st.hl _ (dq _ _ _ hs);rw[List.getElem?_take] at hj;split at hj
        · exact jO.1 _ _ hj
        · cases hj
      have hr:=run_append_grow (P:=P) w t o.type e i' zv hu hi rM ⟨b,o',none⟩ n cap (cs.take (n*sz)) (by
        have:n*sz≤cap*sz:=Nat.mul_le_mul_right _ JQ;rw[List.length_take,vL];omega) vD ad m c2 news (by rw[vL];exact hlen) jn Om Om N7
      rw[kE _ _ hr];simp only[Oper.upon,hd];have:=fin (grownCap w (n+m) cap e) _ (Builtin.zeroCells zv.cells (grownCap w (n+m) cap e-(n+m))).toList wR rfl (DG _);omega
    · subst hq;subst wC;obtain rfl:n=0:=Om;have hr:=run_append_nil (P:=P) w t o.type e i' zv hu hi rM ad m c2 news (by rw[vL];exact hlen) jn Om Om (by
        grind)
      rw[kE _ _ hr];simp only[Oper.upon,hd];have:=fin (grownCap w m 0 e) [] (Builtin.zeroCells zv.cells (grownCap w m 0 e-m)).toList (by simpa using wR) Oi (by simpa using DG _);simp_all
theorem aaa {ca:Call} {q2:Option Addr} {sl sc dl dc e mW:Nat} {zs news:List Value} {sg:au} (i j:Nat) (ho:o.op=.call ca) (hc:ca.callee=.builtin .copy) (f':evs ρ ca.args.toList=some [.slice (some ⟨sg.b,q,none⟩) dl dc,.slice q2 sl sc]) (uB:ca.argTypes= #[t,t]) (hP:ez P t=some (e,zs,sz,mW))
    (hs:nthS i l=some sg) (hq:q=sg.o+j) (nk:Src l r q2 news) (hlen:news.length=min sl dl*sz) (hj:j+news.length≤sg.cs.length) (h1:(news.all fun u=>u.oneCell')=true) (hd:o.dst=some d) (rG:Nat.blt d K.n=true):
    kC P K ρ l r o (fun ρ' l'=>ρ'=(d,.int .i64 ((min sl dl:Nat):Int))::ρ∧l'=setS i ⟨sg.b,sg.o,spl sg.cs j news,sg.sh⟩ l):=by
  intro a w ha nx Q mf;obtain⟨N,hN⟩:∃N,N=min sl dl:=⟨_,rfl⟩;rw[←hN] at hlen mf;obtain⟨i',zv,hu,hi,rM,lK,vL,DD⟩:=gq hP;have rN:∀w,(sizeOf e).run P w=.ok sz w:=cH (by simp[eW,hi,vL]);have iJ:=kK ha.fr f';have WZ:∀u ∈ news,u.oneCell'=true:=fun u hu=>List.all_eq_true.1 h1 u hu
  subst hq;have DF:(Builtin.firstCells sz N (.slice q2 sl sc)).run P w=.ok news.toArray w:=by
    rcases nk.cells ha with DE|⟨ad,N6,jn⟩
    · subst DE;simp at hlen;cases q2 with
      |none=>simp[Builtin.firstCells]
      |some ad=>simp[Builtin.firstCells,loadCells, ←hlen,loadCellsFrom]
    · subst N6;exact run_firstCells_some (P:=P) w sz _ ad sl sc news hlen jn
  obtain⟨w',W4,hA⟩:=fP (P:=P) news 0 j l w sg i sg.b (sg.o+j) ha hs rfl Oi hj WZ;unfold Oper.wp;have hr:(Builtin.copy_ #[t,t] o.type #[.slice (some ⟨sg.b,sg.o+j,none⟩) dl dc,.slice q2 sl sc]).run P w=.ok (.int .i64 ((N:Nat):Int)) w':=by
    have:Nat.min sl dl=N:=hN.symm;simp[Builtin.copy_,aK hu,rN,Builtin.lenOf,this,DF,W4,goInt]
  have e:(execOp a.eval o).run P w=.ok (.value (.int .i64 ((N:Nat):Int))) w':=by
    simp[execOp,ho,resolve,hc,iJ,invoke,builtin,uB,hr]
  rw[e];simp only[Oper.upon,hd];exact mf _ _ ⟨_,_,⟨rfl,rfl⟩,hA.put rG _⟩
theorem ab5 {T:TypeId} {D:TypeDesc} (ho:o.op=.makeInterface T x) (hx:ev ρ x=some v) (hu:P.underlying T=some D) (hD:(match D with| .interface _=>true|_=>false)=false):aH P ρ o (.iface T v):=fun ac ha w=>by
  have:(Instr.makeInterface T v).run P w=.ok (.iface T v) w:=by
    cases D<;>simp at hD<;>simp[Instr.makeInterface,aK hu]
  simp[execOp,ho,bf ha hx,this]
theorem n5 {p:Option Addr} {e:TypeId} (ho:o.op=.sliceToArrayPointer t x) (hx:ev ρ x=some (.slice p len cap)) (hu:P.underlying t=some (.array n e)) (h:n≤len):aH P ρ o (.pointer p):=fun ac ha w=>by
  have:¬len<n:=Om;simp[execOp,ho,bf ha hx,Instr.arrayAt,aK hu,this]
theorem ajN {ca:Call} {X Y:Int} (ho:o.op=.call ca) (hc:ca.callee=.builtin .max) (hx:evs ρ ca.args.toList=some [.int k X,.int k' Y]):aH P ρ o (.int k (max X Y)):=fun ac hac w=>by
  have:(if X<Y then Y else X)=max X Y:=by split<;>omega
  simp[execOp,ho,resolve,hc,kK hac hx,invoke,builtin,Builtin.max_,Builtin.max2,this]
theorem vM {ca:Call} {X Y:Int} (ho:o.op=.call ca) (hc:ca.callee=.builtin .min) (hx:evs ρ ca.args.toList=some [.int k X,.int k' Y]):aH P ρ o (.int k (min X Y)):=fun ac hac w=>by
  have:(if Y<X then Y else X)=min X Y:=by split<;>omega
  simp[execOp,ho,resolve,hc,kK hac hx,invoke,builtin,Builtin.min_,Builtin.min2,this]
end
inductive Pl where
  |nil|stop
  |st (i:Nat) (k:Bool) (rest:Pl)
  |ef (i:Nat) (rest alt:Pl)
  |er (i:Nat) (rest alt:Pl)
def Pl.alts:Pl→List Nat
  | .ef i _ a=>i::a.alts
  | .er i _ a=>i::a.alts
  |_=>[]
def memB (j:Nat):List Nat→Bool
  |[]=>false
  |i::l=>Nat.beq i j||memB j l
theorem DH {j:Nat}:∀{l:List Nat},memB j l=true→j ∈ l
  |[],h=>by simp[memB] at h
  |i::l,h=>by
    simp only[memB,Bool.or_eq_true] at h;rcases h with h|h
    · simp_all
    · simp_all [DH]
def Pl.len:Pl→Nat
  | .nil=>0
  | .stop=>0
  | .st _ _ r=>r.len+1
  | .ef _ r a=>max (r.len+1) a.len
  | .er _ r a=>max (r.len+1) a.len
mutual
def Pl.ok (n:Nat) (b:List Nat) (E:Nat):Pl→Nat→Bool
  | .nil,d=>Nat.beq d (Nat.pow 2 n-1)
  | .stop,_=>false
  | .st i k rest,d=>Nat.blt i n && !Nat.testBit d i && oQ (nthN i b) d && (!Nat.testBit E i && (!k||allFrom (fun j=>Nat.testBit d j|| !Nat.testBit E j||Nat.testBit (nthN j b) i) 0 n)) && rest.ok n b E (Nat.lor d (Nat.pow 2 i))
  | .ef i rest alt,d=>allFrom (fun j=>Nat.testBit d j||memB j (i::alt.alts)|| !oQ (nthN j b) d) 0 n && (Nat.blt i n && !Nat.testBit d i && oQ (nthN i b) d && Nat.testBit E i && rest.ok n b E (Nat.lor d (Nat.pow 2 i))) && alt.oks n b E d
  | .er i rest alt,d=>allFrom (fun j=>Nat.testBit d j||memB j (i::alt.alts)|| !oQ (nthN j b) d) 0 n && (Nat.blt i n && !Nat.testBit d i && oQ (nthN i b) d && !Nat.testBit E i && rest.ok n b E (Nat.lor d (Nat.pow 2 i))) && alt.oks n b E d
def Pl.oks (n:Nat) (b:List Nat) (E:Nat):Pl→Nat→Bool
  | .stop,_=>true
  | .ef i rest alt,d=>(Nat.blt i n && !Nat.testBit d i && oQ (nthN i b) d && Nat.testBit E i && rest.ok n b E (Nat.lor d (Nat.pow 2 i))) && alt.oks n b E d
  | .er i rest alt,d=>(Nat.blt i n && !Nat.testBit d i && oQ (nthN i b) d && !Nat.testBit E i && rest.ok n b E (Nat.lor d (Nat.pow 2 i))) && alt.oks n b E d
  |_,_=>false
end
def JR (L:List Oper) (E:Nat) (pl:Pl):Bool:=
  Region.noSelect L.toArray && Nat.ble pl.len L.length && backB 0 L && iw L.toArray (befs [] L) L 0 L && pl.ok L.length (befs [] L) E 0
section
variable {P:Program} {Q:Exit→Act→World→Prop}
def Gp (P:Program) (ops:Array Oper) (Q:Exit→Act→World→Prop):Pl→Act→World→Prop
  | .nil,a,w=>Q .normal a w
  | .stop,_,_=>True
  | .st i false rest,a,w=>∃o v,ops[i]? =some o∧Yields P ops o v a∧Gp P ops Q rest (a.put o.dst v) w
  | .st i true rest,a,w=>∃o v,ops[i]? =some o∧YieldsAt P ops w o v a∧Gp P ops Q rest (a.put o.dst v) w
  | .ef i rest alt,a,w=>wpOp P ops Q i (Gp P ops Q rest) a w∧Gp P ops Q alt a w
  | .er i rest alt,a,w=>stOp P ops w i (fun a'=>Gp P ops Q rest a' w) a∧Gp P ops Q alt a w
theorem Bu {L:List Oper} {E:Nat} {Q:Exit→Act→World→Prop} {a:Act} {w:World}:∀(pl:Pl) (d:Nat) (j:Nat),pl.oks L.length (befs [] L) E d=true→j ∈ pl.alts→Gp P L.toArray Q pl a w→
    ∃rest,(Nat.blt j L.length && !Nat.testBit d j && oQ (nthN j (befs [] L)) d && rest.ok L.length (befs [] L) E (Nat.lor d (Nat.pow 2 j)))=true∧rest.len+1≤pl.len∧((Nat.testBit E j=true∧wpOp P L.toArray Q j (Gp P L.toArray Q rest) a w)∨(Nat.testBit E j=false∧stOp P L.toArray w j (fun a'=>Gp P L.toArray Q rest a' w) a))
  | .nil,d,j,h,hj,_=>by simp[Pl.oks] at h
  | .stop,d,j,h,hj,_=>by simp[Pl.alts] at hj
  | .st _ _ _,d,j,h,hj,_=>by simp[Pl.oks] at h
  | .ef i rest alt,d,j,h,hj,hw=>by
    simp only[Pl.oks] at h;rw[Bool.and_eq_true] at h;simp only[Pl.alts,List.mem_cons] at hj;by_cases e:j=i
    · subst e;have h1:=h.1;simp only[Bool.and_eq_true] at h1 ⊢;exact⟨rest,⟨⟨h1.1.1.1,h1.1.1.2⟩,h1.2⟩,by simp only[Pl.len];omega,.inl ⟨h1.1.2,hw.1⟩⟩
    · obtain⟨r,h1,h2,h3⟩:=Bu alt d j h.2 (hj.resolve_left e) hw.2;grind [Pl.len]
  | .er i rest alt,d,j,h,hj,hw=>by
    simp only[Pl.oks] at h;rw[Bool.and_eq_true] at h;simp only[Pl.alts,List.mem_cons] at hj;by_cases e:j=i
    · subst e;have h1:=h.1;simp only[Bool.and_eq_true] at h1 ⊢;exact⟨rest,⟨⟨h1.1.1.1,h1.1.1.2⟩,h1.2⟩,by simp only[Pl.len];omega,.inr ⟨by simpa using h1.1.2,hw.1⟩⟩
    · obtain⟨r,h1,h2,h3⟩:=Bu alt d j h.2 (hj.resolve_left e) hw.2;grind [Pl.len]
theorem aab {L:List Oper} {d i:Nat} {listed:Array Bool} (nZ:backB 0 L=true) (wx:iw L.toArray (befs [] L) L 0 L=true) (hl:VR L d listed) (eV:i<L.length) (uM:d.testBit i=false) (mr:oQ (nthN i (befs [] L)) d=true):
    i ∈ Region.ready .any L.toArray listed∧NB .any L.toArray listed i L[i] (fun j=>j=i∨(nthN j (befs [] L)).testBit i=true):=by
  have Wq:L[i]? =some L[i]:=by simp[eV]
  have MC:L.toArray[i]? =some L[i]:=by simpa using Wq
  have dir:∀e ∈ L[i].after,Region.binds .any e=true→listed.getD e.on false=true:=fun e he hb=>by
    have h1:=rK L 0 nZ i _ Wq e he hb;rw[Nat.zero_add] at h1;have h2:=jV mr (xq Wq he hb h1);have h3:=hl.at_ e.on Om;rw[h2] at h3;have:e.on<listed.size:=by rw[hl.size];omega
    grind
  have na:i ∈ Region.ready .any L.toArray listed:=mem_ready.2 ⟨by rw[hl.at_ i eV];exact uM,_,MC,dir⟩;have isz:L.toArray.size=L.length:=Oi;have nb:NB .any L.toArray listed i L[i] (fun j=>j=i∨(nthN j (befs [] L)).testBit i=true):=by
    refine⟨fun j hj hb=>?_,fun j oj hj hb wv=>?_,fun j oj hj zh hb=>?_⟩
    · rw[isz] at hj;rw[hl.at_ j hj];rcases hb with rfl|hb
      · exact uM
      · cases hd:d.testBit j with
        |false=>rfl
        |true=>rw[jV (hl.closed j hj hd) hb] at uM;cases uM
    · grind [uL]
    · have M':L[j]? =some oj:=by simpa using hj
      have ZT:j<L.length:=by
        grind
      have h1:=lT L 0 wx i _ Wq;rw[Nat.zero_add] at h1;have h2:=oR L 0 h1 j oj M';simp only[Nat.zero_add] at h2;rcases h2 with h2|h2|h2|h2
      · grind
      · rw[hl.at_ j ZT,jV mr h2] at zh;cases zh
      · omega
      · exact h2
  grind
theorem vN {L:List Oper} {E:Nat} (nZ:backB 0 L=true) (wx:iw L.toArray (befs [] L) L 0 L=true) {fuel:Nat} {pl:Pl} {d i:Nat} {listed:Array Bool} {a:Act} {w:World} (hm:i ∈ pl.alts)
    (ih:∀(pl:Pl) (d:Nat) (listed:Array Bool) (a:Act) (w:World),pl.ok L.length (befs [] L) E d=true→VR L d listed→pl.len≤fuel→Gp P L.toArray Q pl a w→Dj P .any L.toArray (fun j=>Nat.testBit E j) Q fuel listed a w)
    (qX:allFrom (fun j=>Nat.testBit d j||memB j pl.alts|| !oQ (nthN j (befs [] L)) d) 0 L.length=true) (as7:pl.oks L.length (befs [] L) E d=true) (hl:VR L d listed) (hf:pl.len≤fuel+1) (h:Gp P L.toArray Q pl a w):
    Dj P .any L.toArray (fun j=>Nat.testBit E j) Q (fuel+1) listed a w:=by
  have step:∀j ∈ pl.alts,j ∈ Region.ready .any L.toArray listed∧((Nat.testBit E j=true∧wpOp P L.toArray Q j (Dj P .any L.toArray (fun j=>Nat.testBit E j) Q fuel (listed.setIfInBounds j true)) a w)∨(Nat.testBit E j=false∧stOp P L.toArray w j (fun a'=>Dj P .any L.toArray (fun j=>Nat.testBit E j) Q fuel (listed.setIfInBounds j true) a' w) a)):=by
    intro j hj;obtain⟨rj,h1,h2,h3⟩:=Bu _ d j as7 hj h;simp only[Bool.and_eq_true] at h1;obtain⟨⟨⟨Dr,rG⟩,mr⟩,hrj⟩:=h1;have eV:j<L.length:=Nat.le_of_ble_eq_true Dr;have uM:d.testBit j=false:=by simpa using rG
    obtain⟨na,nb⟩:=aab nZ wx hl eV uM mr;refine⟨na,?_⟩;rcases h3 with ⟨h4,h5⟩|⟨h4,h5⟩
    · exact .inl ⟨h4,wpOp_mono (fun a' w' h'=>ih rj _ _ a' w' hrj (hl.put eV mr) Om h') h5⟩
    · exact .inr ⟨h4,stOp_mono (fun a' h'=>ih rj _ _ a' w hrj (hl.put eV mr) Om h') h5⟩
  refine⟨fun h0=>?_,fun j hj=>?_⟩
  · grind
  · have hm:j ∈ pl.alts:=by
      obtain⟨zh,oj,Bn,as8⟩:=mem_ready.1 hj;have ZT:j<L.length:=by simpa using (Array.getElem?_eq_some_iff.1 Bn).1
      have h1:=je _ _ qX j Om Om;rw[hl.at_ j ZT] at zh;simp only[zh,Bool.false_or] at h1;rw[Bool.or_eq_true] at h1;rcases h1 with h1|h1
      · exact DH h1
      · exfalso
        -- all that j waits for is done
        have as9:L[j]? =some oj:=by simpa using Bn
        have:oQ (nthN j (befs [] L)) d=true:=by
          show Nat.beq (nthN j (befs [] L)&&&d) (nthN j (befs [] L))=true;have e:nthN j (befs [] L)&&&d=nthN j (befs [] L):=by
            apply Nat.eq_of_testBit_eq;intro k;rw[Nat.testBit_and];cases hk:(nthN j (befs [] L)).testBit k with
            |false=>rfl
            |true=>
              obtain⟨e,he,hb,eV,hor⟩:=uL as9 hk;have hd:=as8 e he hb;have ajO:d.testBit e.on=true:=by
                have h3:=hl.at_ e.on Om;grind
              rcases hor with h4|h4
              · grind
              · have:=hl.closed e.on Om ajO;grind [jV]
          simp_all
        grind
    grind
theorem Gq {L:List Oper} {E:Nat} (oO:Region.noSelect L.toArray=true) (nZ:backB 0 L=true) (wx:iw L.toArray (befs [] L) L 0 L=true)
    (hQ:∀c a w (d:Nat) v,Q (.panic c) (a.put (some d) v) w→Q (.panic c) a w):
    ∀(fuel:Nat) (pl:Pl) (d:Nat) (listed:Array Bool) (a:Act) (w:World),pl.ok L.length (befs [] L) E d=true→VR L d listed→pl.len≤fuel→Gp P L.toArray Q pl a w→
      Dj P .any L.toArray (fun j=>Nat.testBit E j) Q fuel listed a w:=by
  intro fuel;have isz:L.toArray.size=L.length:=Oi;induction fuel with
  |zero=>
    intro pl d listed a w hs hl hf h;cases pl with
    |nil=>
      refine xm ?_ h 0;have hd:d=2^L.length-1:=Nat.eq_of_beq_eq_true hs;apply List.eq_nil_iff_forall_not_mem.2;intro j hj;obtain⟨zh,o,ho,_⟩:=mem_ready.1 hj;have eV:j<L.length:=by simpa using (Array.getElem?_eq_some_iff.1 ho).1
      rw[hl.at_ j eV,hd,Nat.testBit_two_pow_sub_one] at zh;grind
    |stop=>simp[Pl.ok] at hs
    |st i k rest=>simp[Pl.len] at hf
    |ef i rest alt=>simp only[Pl.len] at hf;omega
    |er i rest alt=>simp only[Pl.len] at hf;omega
  |succ fuel ih=>
    intro pl d listed a w hs hl hf h;cases pl with
    |nil=>
      refine xm ?_ h (fuel+1);have hd:d=2^L.length-1:=Nat.eq_of_beq_eq_true hs;apply List.eq_nil_iff_forall_not_mem.2;intro j hj;obtain⟨zh,o,ho,_⟩:=mem_ready.1 hj;have eV:j<L.length:=by simpa using (Array.getElem?_eq_some_iff.1 ho).1
      rw[hl.at_ j eV,hd,Nat.testBit_two_pow_sub_one] at zh;grind
    |stop=>simp[Pl.ok] at hs
    |st i k rest=>
      simp only[Pl.ok,Bool.and_eq_true] at hs;obtain⟨⟨⟨⟨Dr,rG⟩,mr⟩,hE',hk⟩,sV⟩:=hs;have eV:i<L.length:=Nat.le_of_ble_eq_true Dr;have uM:d.testBit i=false:=by simpa using rG
      have hE:Nat.testBit E i=false:=by simpa using hE'
      have MC:L.toArray[i]? =some L[i]:=by simp[eV]
      obtain⟨na,nb⟩:=aab nZ wx hl eV uM mr;have VS:=hl.put eV mr;simp only[Pl.len] at hf;cases k with
      |false=>
        obtain⟨o,v,ho,hy,hw⟩:=h;have:o=L[i]:=Option.some.inj (ho.symm.trans MC);subst this;refine Dl MC (Region.noSelect_spec oO) hE ?_ fuel listed a w nb na hy (ih rest _ _ _ w sV VS Om hw);intro c a w hq;cases hd:L[i].dst with
        |none=>rw[hd] at hq;exact hq
        |some d'=>rw[hd] at hq;exact hQ c a w d' v hq
      |true=>
        obtain⟨o,v,ho,hy,hw⟩:=h;have:o=L[i]:=Option.some.inj (ho.symm.trans MC);subst this;refine Dk MC (Region.noSelect_spec oO) hE (.inl rfl) fuel listed a w nb ?_ na hy (ih rest _ _ _ w sV VS Om hw);intro j hj zh hEj;rw[isz] at hj;have h1:=je _ _ (by simpa using hk) j Om Om;rw[hl.at_ j hj] at zh;grind
    |ef i rest alt=>
      simp only[Pl.ok] at hs;rw[Bool.and_eq_true,Bool.and_eq_true] at hs;obtain⟨⟨qX,hi⟩,halt⟩:=hs;exact vN nZ wx (pl:=.ef i rest alt) List.mem_cons_self ih qX (by simp only[Pl.oks];rw[Bool.and_eq_true];exact⟨hi,halt⟩) hl hf h
    |er i rest alt=>
      simp only[Pl.ok] at hs;rw[Bool.and_eq_true,Bool.and_eq_true] at hs;obtain⟨⟨qX,hi⟩,halt⟩:=hs;exact vN nZ wx (pl:=.er i rest alt) List.mem_cons_self ih qX (by simp only[Pl.oks];rw[Bool.and_eq_true];exact⟨hi,halt⟩) hl hf h
theorem Gr {L:List Oper} {id:Nat} (E:Nat) (pl:Pl) (hm:P.follows .mixedOrders=true) (hB:JR L E pl=true)
    (hQ:∀c a w (d:Nat) v,Q (.panic c) (a.put (some d) v) w→Q (.panic c) a w) {a:Act} {w:World} (h:Gp P L.toArray Q pl a w.drew):(Code.region id L.toArray true).wp P Q a w:=by
  simp only[JR,Bool.and_eq_true] at hB;obtain⟨⟨⟨⟨h1,h0⟩,h2⟩,h3⟩,h4⟩:=hB;have Ws:pl.len≤L.length:=Nat.le_of_ble_eq_true h0;refine vE (E:=fun j=>Nat.testBit E j) hm ?_;have hl:VR L 0 (Array.replicate L.toArray.size false):=⟨Oi,fun j hj=>by simp[hj],fun j hj hd=>by simp at hd⟩;grind [Gq]
end
section
variable {P:Program} {K:Kx} {Q:Exit→Act→World→Prop} {ρ:aB} {l r:List au} {L:List Oper} {o:Oper} {d i:Nat} {v:Value} {os alt:Pl}
def GT (P:Program) (K:Kx) (Q:Exit→Act→World→Prop) (L:List Oper) (pl:Pl) (ρ:aB) (l r:List au):Prop:=∀a w,At K ρ l r a w→Gp P L.toArray Q pl a w
theorem G.tree {id:Nat} {L:List Oper} (E:Nat) (pl:Pl) (hm:P.follows .mixedOrders=true) (hB:JR L E pl=true) (hQ:∀c a w (d:Nat) v,Q (.panic c) (a.put (some d) v) w→Q (.panic c) a w) (h:GT P K Q L pl ρ l r):G P K Q (.region id L.toArray true) ρ l r:=
  fun a w ha=>Gr E pl hm hB hQ (h a w.drew ha.drew)
theorem GT.y (h:aH P ρ o v) (hi:nth i L=some o) (hw:want L ρ o=some true) (hd:o.dst=some d) (hn:Nat.blt d K.n=true) (k:GT P K Q L os ((d,v)::ρ) l r):GT P K Q L (.st i false os) ρ l r:=
  fun a w ha=>⟨o,v,jd hi,.inl ⟨gW hw ha.fr,fun w'=>h a ha.fr w'⟩,by rw[hd];exact k _ _ (ha.put hn v)⟩
theorem GT.rd (h:n3 P ρ l r o v) (hi:nth i L=some o) (hw:want L ρ o=some true) (hd:o.dst=some d) (hn:Nat.blt d K.n=true) (k:GT P K Q L os ((d,v)::ρ) l r):GT P K Q L (.st i true os) ρ l r:=
  fun a w ha=>⟨o,v,jd hi,.inl ⟨gW hw ha.fr,.inl (h a w ha.fr ha.st)⟩,by rw[hd];exact k _ _ (ha.put hn v)⟩
theorem GT.skip (hi:nth i L=some o) (hw:want L ρ o=some false) (hd:o.dst=some d) (hn:Nat.blt d K.n=true) (k:GT P K Q L os ((d,undef)::ρ) l r):GT P K Q L (.st i false os) ρ l r:=
  fun a w ha=>⟨o,undef,jd hi,.inr ⟨gW hw ha.fr,rfl⟩,by rw[hd];exact k _ _ (ha.put hn undef)⟩
theorem GT.c8 {N:aB→List au→Prop} (h:kC P K ρ l r o N) (hi:nth i L=some o) (hw:want L ρ o=some true) (k:∀ρ' l',N ρ' l'→GT P K Q L os ρ' l' r) (ha:GT P K Q L alt ρ l r):GT P K Q L (.ef i os alt) ρ l r:=by
  intro a w hA;refine⟨?_,ha a w hA⟩;show wpOp P L.toArray Q i (Gp P L.toArray Q os) a w;unfold wpOp;rw[jd hi];simp only[];rw[if_pos (gW hw hA.fr)];left;exact h a w hA _ _ fun a' w' ⟨ρ',l',hN,hA'⟩=>k ρ' l' hN a' w' hA'
theorem GT.erd (h:n3 P ρ l r o v) (hi:nth i L=some o) (hw:want L ρ o=some true) (hd:o.dst=some d) (hn:Nat.blt d K.n=true) (k:GT P K Q L os ((d,v)::ρ) l r) (ha:GT P K Q L alt ρ l r):GT P K Q L (.ef i os alt) ρ l r:=by
  refine GT.c8 (N:=fun ρ' l'=>ρ'=(d,v)::ρ∧l'=l) ?_ hi hw (fun ρ' l' ⟨h1,h2⟩=>by subst h1;subst h2;exact k) ha;intro a w hA nx Q mf;unfold Oper.wp;rw[h a w hA.fr hA.st];simp only[Oper.upon,hd];exact mf _ _ ⟨_,_,⟨rfl,rfl⟩,hA.put hn v⟩
theorem GT.er (h:n3 P ρ l r o v) (hi:nth i L=some o) (hw:want L ρ o=some true) (hd:o.dst=some d) (hn:Nat.blt d K.n=true) (k:GT P K Q L os ((d,v)::ρ) l r) (ha:GT P K Q L alt ρ l r):GT P K Q L (.er i os alt) ρ l r:=
  fun a w hA=>⟨(show YieldsAt P L.toArray w o v a from .inl ⟨gW hw hA.fr,.inl (h a w hA.fr hA.st)⟩).stOp (jd hi) (by rw[hd];exact k _ _ (hA.put hn v)),ha a w hA⟩
theorem GT.stop:GT P K Q L .stop ρ l r:=fun _ _ _=>trivial
theorem GT.nil (h:GQ K Q .normal ρ l r):GT P K Q L .nil ρ l r:=fun a w ha=>h a w ha
end
section
variable {P:Program} {K:Kx} {Q:Exit→Act→World→Prop} {ρ:aB} {l r:List au} {o:Oper} {v:Value} {x y z:Operand} {t s f sz n m c lo hi len cap b q j d:Nat} {k k':IntKind}
theorem lL (xs ys:List Nat):aa k (xs++ys)=aa k xs++aa k ys:=by simp[aa]
theorem N9 (n x:Nat):List.replicate n (.int k ((x:Nat):Int))=aa k (List.replicate n x):=by simp[aa]
theorem ep (xs:List Nat):((aa k xs).all fun u=>u.oneCell')=true:=by
  simp[aa,Value.oneCell']
theorem dr (xs:List Nat) (j m:Nat):((aa k xs).drop j).take (aa k ((xs.drop j).take m)).length=aa k ((xs.drop j).take m):=by
  simp_all [aa]
theorem GS.ajP {q:Option Addr} {b o:Nat} {cs:List Value} (h:GS q b o cs 1 cap) {j:Nat} (hj:j<cap):j<cs.length:=by have:=h.len;omega
theorem Gs {xs:List Nat} (h:j<xs.length):((aa k xs).drop j).take 1=[.int k ((xs.getD j 0:Nat):Int)]:=by
  have:(aa k xs).drop j=.int k ((xs.getD j 0:Nat):Int)::(aa k xs).drop (j+1):=by
    rw[List.drop_eq_getElem_cons (by simpa using h)];congr 1;have:=aM (k:=k) h;grind
  rw[this];rfl
theorem ik {ca:Call} {q q2:Option Addr} {b o' c2 e mW:Nat} {cs zs:List Value} {xs ys:List Nat} {sh:Option (TypeId × Nat)} (i:Nat) (ho:o.op=.call ca) (hc:ca.callee=.builtin .append) (f':evs ρ ca.args.toList=some [.slice q n cap,.slice q2 m c2]) (uB:ca.argTypes= #[t,t]) (hP:ez P t=some (e,zs,1,mW)) (hz:zs.length=1)
    (hs:nthS i l=some ⟨b,o',cs,sh⟩) (hg:GS q b o' cs 1 cap) (hp:cs.take n=aa k xs) (nk:Src l r q2 (aa k ys)) (hn:n≤cap∧(n+m)*mW≤140737488355328∧n+m≤9223372036854775807∧ys.length=m) (hd:o.dst=some d) (rG:Nat.blt d K.n=true):
    kC P K ρ l r o (fun ρ' l'=>∃q' b' o' gU gk,GS q' b' o' gU 1 gk∧n+m≤gk∧gU.take (n+m)=aa k (xs++ys)∧ρ'=(d,.slice q' (n+m) gk)::ρ∧l'=setS i ⟨b',o',gU,none⟩ l):=by
  intro a w ha nx Q mf;refine ajL (K:=K) i ho hc f' uB hP hz hs hg nk ⟨hn.1,Om,hn.2.1,hn.2.2.1⟩ (by simp[hn.2.2.2]) (ep _) hd rG a w ha nx Q fun a' w' ⟨ρ',l',⟨q',b',F5,gU,gk,h1,h2,h3,h4,h5⟩,h6⟩=>mf a' w' ⟨ρ',l',⟨q',b',F5,gU,gk,h1,h2,?_,h4,h5⟩,h6⟩
  grind [lL]
theorem lh {kl kc:IntKind} {e mW:Nat} (ho:o.op=.makeSlice t x y) (hx:ev ρ x=some (.int kl ((m:Nat):Int))) (hy:ev ρ y=some (.int kc ((c:Nat):Int))) (hP:ez P t=some (e,[.int k ((0:Nat):Int)],1,mW)) (h:m≤c∧mW*c≤281474976710656∧c≤9223372036854775807) (hd:o.dst=some d) (hn:Nat.blt d K.n=true):
    kC P K ρ l r o (fun ρ' l'=>∃b,ρ'=(d,.slice (some ⟨b,0,none⟩) m c)::ρ∧l'=⟨b,0,aa k (List.replicate c 0),none⟩::l):=by
  have:=as5 (K:=K) (l:=l) (r:=r) ho hx hy hP h hd hn;grind [N9]
theorem fc {e:Nat} {zs vs:List Value} {pv:List (Nat × Value)} {ps:List (Nat × Operand)} (mW:Nat) (ho:o.op=.buildSlice t n ps.toArray) (F6:evs ρ (ps.map (·.2))=some (pv.map (·.2))∧ps.map (·.1)=pv.map (·.1)) (hP:ez P t=some (e,zs,sz,mW)) (hn:n*sz≤16777216)
    (hf:Instr.fill (fun i=>some (i*sz,sz)) ((Array.range (n*sz)).map (zs.toArray[· %zs.toArray.size]!)) pv=some vs.toArray) (hd:o.dst=some d) (rG:Nat.blt d K.n=true):
    kC P K ρ l r o (fun ρ' l'=>∃b,ρ'=(d,.slice (some ⟨b,0,none⟩) n n)::ρ∧l'=⟨b,0,vs,none⟩::l):=by
  intro a w ha nx Q mf;obtain⟨i,zv,hu,hi,rM,lK,vL,hby⟩:=gq hP;have rN:∀w,(sizeOf e).run P w=.ok sz w:=cH (by simp[eW,hi,vL]);have hzr:∀w,(zeroValue e).run P w=.ok zv w:=fun w=>by simp[zeroValue,kj hi,rM]
  have DG:zv.cells=zs.toArray:=by apply Array.toList_inj.1;simpa using lK
  have hpv:ps.map (fun p=>(p.1,a.eval p.2))=pv:=by
    have h1:=oV ha.fr _ _ F6.1;have h2:=F6.2;clear hf F6 ho;induction ps generalizing pv with
    |nil=>cases pv with
      |nil=>rfl
      |cons=>simp at h2
    |cons p ps ih=>cases pv with
      |nil=>simp at h2
      |cons u us=>
        grind
  have aHB:(ps.toArray.map fun (p:Nat × Operand)=>(p.1,a.eval p.2)).toList=pv:=by simpa using hpv
  unfold Oper.wp;have jn:(Array.range (n*sz)).map ((if n*sz=0 then #[] else zv.cells)[· %(if n*sz=0 then #[] else zv.cells).size]!)=(Array.range (n*sz)).map (zs.toArray[· %zs.toArray.size]!):=by
    grind
  have he:(execOp a.eval o).run P w=.ok (.value (.slice (some ⟨w.heap.size,0,none⟩) n n)) (w.alloc (.cells vs.toArray e)):=by
    have ajQ:¬n*sz>2^24:=Om;by_cases h0:n*sz=0
    · rw[h0] at hf ajQ;simp only[execOp,ho];have hr0:Array.range 0= #[]:=rfl;simp only[hr0,Array.map_empty] at hf;simp[Instr.buildSlice,aK hu,rN,h0,newRow,hr0,hpv,hf]
    · simp only[execOp,ho];simp[Instr.buildSlice,aK hu,rN,hzr,h0,ajQ,newRow,DG] at hf ⊢;simp_all
  rw[he];simp only[Oper.upon,hd];refine mf _ _ ⟨_,_,⟨w.heap.size,rfl,rfl⟩,?_⟩;exact((ha.alloc vs.toArray e).lJ).put rG (.slice (some ⟨w.heap.size,0,none⟩) n n)
def kd (P:Program) (t:Nat):Option (List (Nat × Nat)):=
  match P.underlying t with
  |some (.struct fs)=>fs.toList.mapM fun f=>(eW P f.type).map fun s=>(f.offset,s)
  |_=>none
theorem run_places (P:Program) (w:World):∀(fs:List Field) (ps:List (Nat × Nat)),fs.mapM (fun f=>(eW P f.type).map fun s=>(f.offset,s))=some ps→(fs.mapM fun f=>(do pure (f.offset, ←sizeOf f.type):Sem (Nat × Nat))).run P w=.ok ps w
  |[],ps,h=>by simp at h;subst h;simp
  |f::fs,ps,h=>by
    rw[List.mapM_cons] at h;cases hs:eW P f.type with
    |none=>simp[hs] at h
    |some s=>
      have hsr:=cH hs w;cases hr:fs.mapM (fun f=>(eW P f.type).map fun s=>(f.offset,s)) with
      |none=>simp[hs,hr] at h
      |some rs=>
        simp[hs,hr] at h;subst h;have ih:=run_places P w fs rs hr;simp_all
theorem ta {zs vs:List Value} {pl:List (Nat × Nat)} {pv:List (Nat × Value)} {ps:List (Nat × Operand)} (ho:o.op=.build t ps.toArray) (F6:evs ρ (ps.map (·.2))=some (pv.map (·.2))∧ps.map (·.1)=pv.map (·.1)) (hS:kd P t=some pl) (hZ:vH P t=some zs)
    (hf:Instr.fill (pl.toArray[·]?) zs.toArray pv=some vs.toArray):aH P ρ o (.agg vs.toArray):=by
  intro a ha w;have hpv:ps.map (fun p=>(p.1,a.eval p.2))=pv:=by
    have h1:=oV ha _ _ F6.1;have h2:=F6.2;clear hf F6 ho;induction ps generalizing pv with
    |nil=>cases pv with
      |nil=>rfl
      |cons=>simp at h2
    |cons p ps ih=>cases pv with
      |nil=>simp at h2
      |cons u us=>
        grind
  unfold vH at hZ;cases hi:P.info? t with
  |none=>simp[hi] at hZ
  |some i=>
    cases rM:i.zero with
    |none=>simp[hi,rM] at hZ
    |some zv=>
      simp[hi,rM] at hZ;have DG:zv.cells=zs.toArray:=by apply Array.toList_inj.1;simpa using hZ
      unfold kd at hS;cases hu:P.underlying t with
      |none=>simp[hu] at hS
      |some D=>
        cases D<;>simp[hu] at hS;rename_i fs;have hm:=run_places P w fs.toList pl hS;have hzr:(zeroValue t).run P w=.ok zv w:=by simp[zeroValue,kj hi,rM]
        simp only[execOp,ho];simp only[Instr.build,Sem.run_bind,hzr,Result.andThen_ok,aK hu,Array.mapM_eq_mapM_toList,Sem.run_map];simp_all
theorem Gt (xs:List Nat) (n:Nat):(aa k xs).take n=aa k (xs.take n):=by simp[aa,List.map_take]
def cQ (xs:List Nat) (j:Nat) (ys:List Nat):List Nat:=xs.take j++ys++xs.drop (j+ys.length)
theorem fm (xs ys:List Nat) (j:Nat) (h:j+ys.length≤xs.length):spl (aa k xs) j (aa k ys)=aa k (cQ xs j ys):=by
  simp_all [uT,cQ,aa]
theorem aV {xs ys:List Nat} {j:Nat} (h:j+ys.length≤xs.length):(cQ xs j ys).length=xs.length:=by
  grind [cQ]
theorem ku {ca:Call} {q2:Option Addr} {sl sc dl dc e mW:Nat} {zs:List Value} {xs ys:List Nat} {sg:au} (i j:Nat) (ho:o.op=.call ca) (hc:ca.callee=.builtin .copy) (f':evs ρ ca.args.toList=some [.slice (some ⟨sg.b,q,none⟩) dl dc,.slice q2 sl sc]) (uB:ca.argTypes= #[t,t]) (hP:ez P t=some (e,zs,1,mW))
    (hs:nthS i l=some sg) (hq:q=sg.o+j) (nk:Src l r q2 (aa k ys)) (hlen:ys.length=min sl dl) (zu:sg.cs=aa k xs∧j+ys.length≤xs.length) (hd:o.dst=some d) (rG:Nat.blt d K.n=true):
    kC P K ρ l r o (fun ρ' l'=>ρ'=(d,.int .i64 ((min sl dl:Nat):Int))::ρ∧l'=setS i ⟨sg.b,sg.o,aa k (cQ xs j ys),sg.sh⟩ l):=by
  have:=aaa (K:=K) i j ho hc f' uB hP hs hq nk (by simp[hlen]) (by rw[zu.1];simpa using zu.2) (ep _) hd rG;grind [fm]
end
theorem uU {m n:Nat} (h:m<256) (k:n<256):m|||n<256:=Nat.or_lt_two_pow (n:=8) h k
theorem bI {m n:Nat} (h:m<4294967296) (k:n<4294967296):m|||n<4294967296:=Nat.or_lt_two_pow (n:=32) h k
theorem cC {m n:Nat} (h:m<18446744073709551616) (k:n<18446744073709551616):m|||n<18446744073709551616:=Nat.or_lt_two_pow (n:=64) h k
def Bytes (xs:List Nat):Prop:=∀x ∈ xs,x<256
theorem Bytes.at_ {xs:List Nat} (h:Bytes xs) (i:Nat):xs.getD i 0<256:=by
  rw[List.getD_eq_getElem?_getD];rcases Nat.lt_or_ge i xs.length with hi|hi
  · simp only[hi,List.getElem?_eq_getElem,Option.getD_some];exact h _ (List.getElem_mem hi)
  · simp[List.getElem?_eq_none hi]
def eS (xs:List Nat) (k:Nat):Nat:=((xs.getD k 0|||xs.getD (k+1) 0*2^8%4294967296)|||xs.getD (k+2) 0*2^16%4294967296)|||xs.getD (k+3) 0*2^24%4294967296
theorem dN {xs:List Nat} (h:Bytes xs) (k:Nat):eS xs k<4294967296:=by
  have h0:=h.at_ k;unfold eS;exact bI (bI (bI Om Om) Om) Om
def my (xs:List Nat) (k:Nat):Nat:=((((((xs.getD k 0|||xs.getD (k+1) 0*2^8%18446744073709551616)|||xs.getD (k+2) 0*2^16%18446744073709551616)|||xs.getD (k+3) 0*2^24%18446744073709551616)|||xs.getD (k+4) 0*2^32%18446744073709551616)|||xs.getD (k+5) 0*2^40%18446744073709551616)|||xs.getD (k+6) 0*2^48%18446744073709551616)|||xs.getD (k+7) 0*2^56%18446744073709551616
theorem nr {xs:List Nat} (h:Bytes xs) (k:Nat):my xs k<18446744073709551616:=by
  have h0:=h.at_ k;unfold my;exact cC (cC (cC (cC (cC (cC (cC Om Om) Om) Om) Om) Om) Om) Om
def aq (n:Nat):Nat:=if n=0 then 0 else Nat.log2 n+1
theorem N' (n k:Nat) (h:2^k≤n):Nat.log2 n=k+Nat.log2 (n/2^k):=by
  induction k generalizing n with
  |zero=>simp
  |succ k ih=>
    have h2:2≤n:=Nat.le_trans (by have:1≤2^k:=Nat.one_le_two_pow;rw[Nat.pow_succ];omega) h;rw[Nat.log2_def,if_pos h2,ih (n/2) (by rw[Nat.le_div_iff_mul_le Om, ←Nat.pow_succ];exact h),Nat.div_div_eq_div_mul,show 2*2^k=2^(k+1) by rw[Nat.pow_succ,Nat.mul_comm]];omega
theorem td (n k:Nat) (h:2^k≤n):aq n=k+aq (n/2^k):=by
  have h1:n/2^k≠0:=by
    have:=(Nat.le_div_iff_mul_le (x:=1) (y:=n) (Nat.pow_pos (n:=k) (show 0<2 by omega))).2 Om;omega
  have h0:n≠0:=by intro e;subst e;simp at h1
  unfold aq;rw[if_neg h0,if_neg h1,N' n k h];omega
theorem cS {n k:Nat} (h:n<2^k):aq n≤k:=by
  unfold aq;split
  · omega
  · rename_i h0;have:=(Nat.log2_lt h0).2 h;omega
def Ob:ByteArray:=⟨#[0,1,2,2,3,3,3,3,4,4,4,4,4,4,4,4,5,5,5,5,5,5,5,5,5,5,5,5,5,5,5,5,6,6,6,6,6,6,6,6,6,6,6,6,6,6,6,6,6,6,6,6,6,6,6,6,6,6,6,6,6,6,6,6,7,7,7,7,7,7,7,7,7,7,7,7,7,7,7,7,7,7,7,7,7,7,7,7,7,7,7,7,7,7,7,7,7,7,7,7,7,7,7,7,7,7,7,7,7,7,7,7,7,7,7,7,7,7,7,7,7,7,7,7,7,7,7,7,8,8,8,8,8,8,8,8,8,8,8,8,8,8,8,8,8,8,8,8,8,8,8,8,8,8,8,8,8,8,8,8,8,8,8,8,8,8,8,8,8,8,8,8,8,8,8,8,8,8,8,8,8,8,8,8,8,8,8,8,8,8,8,8,8,8,8,8,8,8,8,8,8,8,8,8,8,8,8,8,8,8,8,8,8,8,8,8,8,8,8,8,8,8,8,8,8,8,8,8,8,8,8,8,8,8,8,8,8,8,8,8,8,8,8,8,8,8,8,8,8,8,8,8,8,8,8,8]⟩
theorem wS:∀m:Nat,m<256→Ob[m]?.map UInt8.toNat=some (aq m):=by decide+kernel
theorem dA {n:Nat} (h:0<n):0<aq n:=by
  unfold aq;rw[if_neg Om];omega
theorem tf {n:Nat} (h:0<n):2^(aq n-1)≤n:=by
  unfold aq;rw[if_neg Om];exact Nat.log2_self_le Om
theorem iD (n:Nat):n<2^aq n:=by
  unfold aq;split
  · rename_i h;subst h;decide
  · exact Nat.lt_log2_self
structure BR where
  off:Nat
  val:Nat
  rd:Nat
def BR.adv (s:BR) (n:Nat):BR:=⟨s.off,s.val*2^(n&&&63)%18446744073709551616,(s.rd+n)%256⟩
def BR.eX (xs:List Nat) (k:Nat) (s:BR):BR:=⟨s.off-4,s.val|||eS xs (k+(s.off-4))*2^(s.rd-32)%18446744073709551616,s.rd-32⟩
def BR.aX (xs:List Nat) (k:Nat) (s:BR):BR:=if s.rd<32 then s else s.eX xs k
def BR.bu (xs:List Nat) (k:Nat) (s:BR):BR:=⟨s.off-1,s.val|||xs.getD (k+(s.off-1)) 0*2^(s.rd-8)%18446744073709551616,s.rd-8⟩
def BR.loads (xs:List Nat) (k:Nat):Nat→BR→BR
  |0,s=>s
  |n+1,s=>(BR.loads xs k n s).bu xs k
def BR.fill (t:Nat) (xs:List Nat) (k:Nat) (s:BR):BR:=if s.rd<32 then s else if t≤s.off then s.eX xs k else BR.loads xs k s.off s
def BR.start (t:Nat) (xs:List Nat) (k len:Nat):BR:=if 8≤len then ⟨len-8,my xs (k+(len-8)),0⟩ else BR.fill t xs k (BR.fill t xs k ⟨len,0,64⟩)
def BR.init (t:Nat) (xs:List Nat) (k len:Nat):BR:=(BR.start t xs k len).adv (8-(aq (xs.getD (k+(len-1)) 0)-1))
def BR.ab6 (s:BR) (n:Nat):Nat:=s.val/2^((64-n)&&&63)%65536
def BR.left (s:BR):Nat:=s.off*8+(64-s.rd)
structure BR.OK (len:Nat) (s:BR):Prop where
  off:s.off≤len
  val:s.val<18446744073709551616
  rd:s.rd<256
theorem BR.OK.eX {xs:List Nat} {k len:Nat} {s:BR} (h:s.OK len):(s.eX xs k).OK len:=
  ⟨by have:=h.off;simp[BR.eX];omega,cC h.val (Nat.mod_lt _ Od),by have:=h.rd;simp[BR.eX];omega⟩
theorem BR.OK.adv {len:Nat} {s:BR} (h:s.OK len) (n:Nat):(s.adv n).OK len:=⟨h.off,Nat.mod_lt _ Od,Nat.mod_lt _ Od⟩
theorem BR.OK.bu {xs:List Nat} {k len:Nat} {s:BR} (h:s.OK len):(s.bu xs k).OK len:=
  ⟨by have:=h.off;simp[BR.bu];omega,cC h.val (Nat.mod_lt _ Od),by have:=h.rd;simp[BR.bu];omega⟩
theorem BR.OK.loads {xs:List Nat} {k len:Nat} {s:BR} (h:s.OK len):∀n,(BR.loads xs k n s).OK len
  |0=>h
  |n+1=>(BR.OK.loads h n).bu
theorem BR.jX {xs:List Nat} {k:Nat} {s:BR}:∀n,(BR.loads xs k n s).off=s.off-n
  |0=>rfl
  |n+1=>by simp[BR.loads,BR.bu,BR.jX n];omega
theorem BR.mA {xs:List Nat} {k:Nat} {s:BR}:∀n,(BR.loads xs k n s).rd=s.rd-8*n
  |0=>rfl
  |n+1=>by simp[BR.loads,BR.bu,BR.mA n];omega
theorem BR.OK.fill {t:Nat} {xs:List Nat} {k len:Nat} {s:BR} (h:s.OK len):(BR.fill t xs k s).OK len:=by
  unfold BR.fill;split
  · exact h
  · split
    · exact h.eX
    · exact h.loads _
theorem BR.JS {t:Nat} {xs:List Nat} {k:Nat} {s:BR} (h:s.rd≤64):(BR.fill t xs k s).rd≤64:=by
  unfold BR.fill;split
  · exact h
  · split
    · simp[BR.eX];omega
    · rw[BR.mA];omega
theorem BR.rP {t:Nat} {xs:List Nat} {k len:Nat} (ht:4≤t) (hl:len<8):8*(BR.fill t xs k ⟨len,0,64⟩).off≤(BR.fill t xs k ⟨len,0,64⟩).rd:=by
  unfold BR.fill;rw[if_neg Oi];split
  · simp[BR.eX];omega
  · rw[BR.jX,BR.mA];simp
def tailV (xs:List Nat) (k:Nat):Nat→Nat
  |0=>0
  |n+1=>tailV xs k n+xs.getD (k+n) 0*2^(8*n)
theorem gK {xs:List Nat} (h:Bytes xs) (k:Nat):∀n,tailV xs k n<2^(8*n)
  |0=>by simp[tailV]
  |n+1=>by
    have h1:=gK h k n;have h2:=h.at_ (k+n);have h3:xs.getD (k+n) 0*2^(8*n)≤255*2^(8*n):=Nat.mul_le_mul_right _ Om;grind [tailV]
theorem tg {a b n:Nat} (h:b<2^n):a*2^n|||b=a*2^n+b:=by
  have:=Nat.shiftLeft_add_eq_or_of_lt h a;rw[Nat.shiftLeft_eq] at this;omega
theorem eJ {a b n:Nat} (h:b<2^n):b|||a*2^n=a*2^n+b:=by rw[Nat.or_comm];exact tg h
theorem xC {xs:List Nat} (h:Bytes xs) (k:Nat):eS xs k=xs.getD k 0+xs.getD (k+1) 0*2^8+xs.getD (k+2) 0*2^16+xs.getD (k+3) 0*2^24:=by
  have h0:=h.at_ k;have h1:=h.at_ (k+1);have h2:=h.at_ (k+2);have h3:=h.at_ (k+3);unfold eS;rw[Nat.mod_eq_of_lt Om,Nat.mod_eq_of_lt Om,Nat.mod_eq_of_lt Om,eJ (n:=8) Om,eJ (n:=16) Om,eJ (n:=24) Om];omega
theorem DJ {xs:List Nat} (h:Bytes xs) (k:Nat):my xs k=tailV xs k 8:=by
  have h0:=h.at_ k;have h1:=h.at_ (k+1);have h2:=h.at_ (k+2);have h3:=h.at_ (k+3);have h4:=h.at_ (k+4);have h5:=h.at_ (k+5);have h6:=h.at_ (k+6);have h7:=h.at_ (k+7);unfold my;rw[Nat.mod_eq_of_lt Om,Nat.mod_eq_of_lt Om,Nat.mod_eq_of_lt Om,Nat.mod_eq_of_lt Om,Nat.mod_eq_of_lt Om,Nat.mod_eq_of_lt Om,Nat.mod_eq_of_lt Om,
    eJ (n:=8) Om,eJ (n:=16) Om,eJ (n:=24) Om,eJ (n:=32) Om,eJ (n:=40) Om,eJ (n:=48) Om,eJ (n:=56) Om]
  (simp[tailV];omega)
structure Pos (xs:List Nat) (k len:Nat) (s:BR) (n R:Nat):Prop where
  ok:s.OK len
  rd:s.rd≤64
  n:n=8*s.off+(64-s.rd)
  dv:∃q,s.val=q*2^s.rd∧q<2^(64-s.rd)∧R=q*2^(8*s.off)+tailV xs k s.off
theorem Pos.adv {xs:List Nat} {k len:Nat} {s:BR} {n R m:Nat} (h:Pos xs k len s n R) (hb:Bytes xs) (hm:m<64) (hr:s.rd+m≤64):Pos xs k len (s.adv m) (n-m) (R%2^(n-m)):=by
  obtain⟨q,hv,hq,hR⟩:=h.dv;have VT:m&&&63=m:=by rw[show(63:Nat)=2^6-1 from rfl,Nat.and_two_pow_sub_one_eq_mod];exact Nat.mod_eq_of_lt hm
  have kL:(s.adv m).rd=s.rd+m:=by simp[BR.adv];omega
  have hp:(2:Nat)^64=2^(64-s.rd-m)*2^(s.rd+m):=by rw[←Nat.pow_add];congr 1;omega
  have gV:(s.adv m).val=(q%2^(64-s.rd-m))*2^(s.rd+m):=by
    show s.val*2^(m&&&63)%18446744073709551616=_;rw[VT,hv,show(18446744073709551616:Nat)=2^64 from rfl,hp,Nat.mul_assoc, ←Nat.pow_add,Nat.mul_mod_mul_right]
  refine⟨h.ok.adv m,Om,by rw[h.n,kL];show _=8*s.off+_;omega,q%2^(64-s.rd-m),by rw[gV,kL],?_,?_⟩
  · rw[kL,show 64-(s.rd+m)=64-s.rd-m by omega];omega
  · show R%2^(n-m)=q%2^(64-s.rd-m)*2^(8*s.off)+tailV xs k s.off;have hn:n-m=(64-s.rd-m)+8*s.off:=by rw[h.n];omega
    have ht:=gK hb k s.off;rw[hR,hn,Nat.pow_add];have e1:q*2^(8*s.off)+tailV xs k s.off=2^(8*s.off)*q+tailV xs k s.off:=by rw[Nat.mul_comm]
    rw[e1,Nat.mul_comm (2^(64-s.rd-m)),Nat.mod_mul,Nat.mul_add_mod,Nat.mod_eq_of_lt ht,Nat.mul_add_div (Nat.pow_pos Om),Nat.div_eq_of_lt ht];grind
theorem xE {xs:List Nat} {k n:Nat} (h:0<n):tailV xs k n=tailV xs k (n-1)+xs.getD (k+(n-1)) 0*2^(8*(n-1)):=by
  cases n with
  |zero=>omega
  |succ n=>rfl
theorem Pos.bu {xs:List Nat} {k len:Nat} {s:BR} {n R:Nat} (h:Pos xs k len s n R) (hb:Bytes xs) (hr:8≤s.rd) (ho:0<s.off):Pos xs k len (s.bu xs k) n R:=by
  obtain⟨q,hv,hq,hR⟩:=h.dv;have hx:=hb.at_ (k+(s.off-1));have kL:=h.rd;have h8:(2:Nat)^s.rd=256*2^(s.rd-8):=by rw[show s.rd=8+(s.rd-8) by omega,Nat.pow_add,show 8+(s.rd-8)-8=s.rd-8 by omega]
  have eV:xs.getD (k+(s.off-1)) 0*2^(s.rd-8)<2^s.rd:=by
    rw[h8];exact Nat.mul_lt_mul_of_pos_right hx (Nat.pow_pos Om)
  have uC:(2:Nat)^s.rd≤18446744073709551616:=Nat.pow_le_pow_right (n:=2) Om (show s.rd≤64 from kL);have gV:(s.bu xs k).val=(q*256+xs.getD (k+(s.off-1)) 0)*2^(s.rd-8):=by
    show s.val|||_%18446744073709551616=_;rw[Nat.mod_eq_of_lt Om,hv,tg eV,h8,Nat.add_mul,Nat.mul_assoc]
  refine⟨h.ok.bu,by show s.rd-8≤64;omega,by rw[h.n];show _=8*(s.off-1)+(64-(s.rd-8));omega,q*256+xs.getD (k+(s.off-1)) 0,gV,?_,?_⟩
  · show _<2^(64-(s.rd-8));rw[show 64-(s.rd-8)=(64-s.rd)+8 by omega,Nat.pow_add];omega
  · show R=(q*256+xs.getD (k+(s.off-1)) 0)*2^(8*(s.off-1))+tailV xs k (s.off-1);rw[hR,xE ho,Nat.add_mul,Nat.mul_assoc,show(256:Nat)*2^(8*(s.off-1))=2^(8*s.off) by rw[show(256:Nat)=2^8 from rfl, ←Nat.pow_add];congr 1;omega];omega
theorem Pos.loads {xs:List Nat} {k len:Nat} {s:BR} {n R:Nat} (h:Pos xs k len s n R) (hb:Bytes xs):∀m,8*m≤s.rd→m≤s.off→Pos xs k len (BR.loads xs k m s) n R
  |0,_,_=>h
  |m+1,h1,h2=>by
    have ih:=Pos.loads h hb m Om Om;exact ih.bu hb (by rw[BR.mA];omega) (by rw[BR.jX];omega)
theorem Pos.eX {xs:List Nat} {k len:Nat} {s:BR} {n R:Nat} (h:Pos xs k len s n R) (hb:Bytes xs) (hr:32≤s.rd) (ho:4≤s.off):Pos xs k len (s.eX xs k) n R:=by
  obtain⟨q,hv,hq,hR⟩:=h.dv;have hx:=dN hb (k+(s.off-4));have kL:=h.rd;have h8:(2:Nat)^s.rd=4294967296*2^(s.rd-32):=by
    rw[show s.rd=32+(s.rd-32) by omega,Nat.pow_add,show 32+(s.rd-32)-32=s.rd-32 by omega]
  have eV:eS xs (k+(s.off-4))*2^(s.rd-32)<2^s.rd:=by
    rw[h8];exact Nat.mul_lt_mul_of_pos_right hx (Nat.pow_pos Om)
  have uC:(2:Nat)^s.rd≤18446744073709551616:=Nat.pow_le_pow_right (n:=2) Om (show s.rd≤64 from kL);have gV:(s.eX xs k).val=(q*4294967296+eS xs (k+(s.off-4)))*2^(s.rd-32):=by
    show s.val|||_%18446744073709551616=_;rw[Nat.mod_eq_of_lt Om,hv,tg eV,h8,Nat.add_mul,Nat.mul_assoc]
  refine⟨h.ok.eX,by show s.rd-32≤64;omega,by rw[h.n];show _=8*(s.off-4)+(64-(s.rd-32));omega,q*4294967296+eS xs (k+(s.off-4)),gV,?_,?_⟩
  · show _<2^(64-(s.rd-32));rw[show 64-(s.rd-32)=(64-s.rd)+32 by omega,Nat.pow_add];omega
  · show R=(q*4294967296+eS xs (k+(s.off-4)))*2^(8*(s.off-4))+tailV xs k (s.off-4);obtain⟨f,hf⟩:∃f,s.off=f+4:=⟨s.off-4,Om⟩;rw[hR,hf,Nat.add_sub_cancel,xC hb];grind [tailV]
theorem Pos.aX {xs:List Nat} {k len:Nat} {s:BR} {n R:Nat} (h:Pos xs k len s n R) (hb:Bytes xs) (ho:32≤s.rd→4≤s.off):Pos xs k len (s.aX xs k) n R∧(s.aX xs k).rd≤32:=by
  unfold BR.aX;split
  · grind
  · exact⟨h.eX hb Om (ho Om),by have:=h.rd;simp[BR.eX];omega⟩
theorem Pos.fill {t:Nat} {xs:List Nat} {k len:Nat} {s:BR} {n R:Nat} (h:Pos xs k len s n R) (hb:Bytes xs) (ht:4≤t) (h8:32≤s.rd→s.off<t→8*s.off≤s.rd):Pos xs k len (BR.fill t xs k s) n R∧((BR.fill t xs k s).rd≤32∨(BR.fill t xs k s).off=0):=by
  unfold BR.fill;split
  · grind
  · split
    · exact⟨h.eX hb Om Om,by have:=h.rd;simp[BR.eX];omega⟩
    · exact⟨h.loads hb _ (h8 Om Om) (Nat.le_refl _),.inr (by rw[BR.jX];omega)⟩
theorem Pos.top {xs:List Nat} {k len:Nat} {s:BR} {n R L:Nat} (h:Pos xs k len s n R) (hb:Bytes xs) (hL:L≤64) (hr:s.rd+L≤64∨s.off=0):s.val/2^(64-L)=R*2^L/2^n:=by
  obtain⟨q,hv,hq,hR⟩:=h.dv;have kL:=h.rd;have ht:=gK hb k s.off;have pos:∀m:Nat,0<2^m:=fun m=>Nat.pow_pos Om
  rcases Nat.lt_or_ge 64 (s.rd+L) with eV|hle
  · have h0:s.off=0:=Om;rw[h0] at hR ht;simp[tailV] at hR;have hn:n=64-s.rd:=by rw[h.n,h0];omega
    obtain⟨e,he⟩:∃e,s.rd=(64-L)+e:=⟨s.rd+L-64,Om⟩;rw[hv,hR,hn,he,Nat.pow_add, ←Nat.mul_assoc,Nat.mul_right_comm,Nat.mul_div_cancel _ (pos _)];have VU:(2:Nat)^L=2^e*2^(64-(64-L+e)):=by rw[←Nat.pow_add];congr 1;omega
    rw[VU, ←Nat.mul_assoc,Nat.mul_div_cancel _ (pos _)]
  · obtain⟨e,he⟩:∃e,64-L=s.rd+e:=⟨64-L-s.rd,Om⟩;have hn:n=(8*s.off+e)+L:=by rw[h.n];omega
    rw[hv,he,hn,Nat.pow_add,Nat.pow_add,Nat.mul_div_mul_right _ _ (pos _), ←Nat.div_div_eq_div_mul,Nat.mul_div_cancel _ (pos _),hR,Nat.pow_add, ←Nat.div_div_eq_div_mul,Nat.add_comm,Nat.add_mul_div_right _ _ (pos _),Nat.div_eq_of_lt ht,Nat.zero_add]
def tN (cd:Nat→Nat × Nat):List Nat→Nat
  |[]=>0
  |c::t=>(cd c).1+tN cd t
def tR (cd:Nat→Nat × Nat):List Nat→Nat
  |[]=>0
  |c::t=>(cd c).2*2^tN cd t+tR cd t
structure wD (dt:List Nat) (L:Nat) (cd:Nat→Nat × Nat) (S:Nat→Prop):Prop where
  L1:1≤L
  L16:L≤11
  one:∀c,S c→c<256∧1≤(cd c).1∧(cd c).1≤L∧(cd c).2<2^(cd c).1
  at_:∀c,S c→∀v,v<2^L→v/2^(L-(cd c).1)=(cd c).2→dt.getD v 0=(cd c).1+256*c
structure aJ (xs:List Nat) (k len:Nat) (cd:Nat→Nat × Nat) (S:Nat→Prop) (s:BR) (t:List Nat):Prop where
  pos:Pos xs k len s (tN cd t) (tR cd t)
  all:∀c ∈ t,S c
theorem aac {dt:List Nat} {L:Nat} {cd:Nat→Nat × Nat} {S:Nat→Prop} (h:wD dt L cd S):∀t:List Nat,(∀c ∈ t,S c)→tN cd t≤L*t.length∧t.length≤tN cd t
  |[],_=>by simp[tN]
  |c::t,ha=>by
    have:=aac h t (fun x hx=>ha x (List.mem_cons_of_mem _ hx));have:=h.one c (ha c List.mem_cons_self);simp only[tN,List.length_cons,Nat.mul_add];omega
theorem JT {dt:List Nat} {L:Nat} {cd:Nat→Nat × Nat} {S:Nat→Prop} (h:wD dt L cd S):∀t:List Nat,(∀c ∈ t,S c)→tR cd t<2^tN cd t
  |[],_=>by simp[tN,tR]
  |c::t,ha=>by
    have h1:=JT h t (fun x hx=>ha x (List.mem_cons_of_mem _ hx));have h2:=(h.one c (ha c List.mem_cons_self)).2.2.2;have h3:(cd c).2*2^tN cd t≤(2^(cd c).1-1)*2^tN cd t:=Nat.mul_le_mul_right _ Om;rw[Nat.sub_mul,Nat.one_mul, ←Nat.pow_add] at h3;have:2^tN cd t≤2^((cd c).1+tN cd t):=Nat.pow_le_pow_right Om Om;grind [tN,tR]
section
variable {xs dt:List Nat} {k len L:Nat} {cd:Nat→Nat × Nat} {S:Nat→Prop} {s:BR} {t:List Nat}
theorem aJ.look (h:aJ xs k len cd S s t) (hT:wD dt L cd S) (hb:Bytes xs) (ht:0<t.length) (hr:s.rd+L≤64∨s.off=0):
    dt.getD (s.val/2^(64-L)) 0=(cd (t.getD 0 0)).1+256*t.getD 0 0∧s.val/2^(64-L)<2^L:=by
  cases t with
  |nil=>simp at ht
  |cons c t=>
    have hc:=h.all c List.mem_cons_self;obtain⟨DK,h1,hl,h2⟩:=hT.one c hc;have hL:=hT.L16;have pos:∀m:Nat,0<2^m:=fun m=>Nat.pow_pos Om
    have htR:=JT hT t (fun x hx=>h.all x (List.mem_cons_of_mem _ hx));have eV:s.val/2^(64-L)<2^L:=by
      rw[Nat.div_lt_iff_lt_mul (pos _), ←Nat.pow_add,show L+(64-L)=64 by omega];exact h.pos.ok.val
    refine⟨hT.at_ c hc _ eV ?_,eV⟩;rw[h.pos.top hb Om hr];show((cd c).2*2^tN cd t+tR cd t)*2^L/2^((cd c).1+tN cd t)/2^(L-(cd c).1)=_;rw[Nat.div_div_eq_div_mul, ←Nat.pow_add,show(cd c).1+tN cd t+(L-(cd c).1)=tN cd t+L by omega,Nat.pow_add,Nat.mul_div_mul_right _ _ (pos _),Nat.add_comm,Nat.add_mul_div_right _ _ (pos _),Nat.div_eq_of_lt htR,Nat.zero_add]
theorem aJ.next (h:aJ xs k len cd S s t) (hT:wD dt L cd S) (hb:Bytes xs) (ht:0<t.length) (hr:s.rd+L≤64∨s.off=0):
    aJ xs k len cd S (s.adv (cd (t.getD 0 0)).1) (t.drop 1)∧1≤(cd (t.getD 0 0)).1∧(cd (t.getD 0 0)).1≤L∧t.getD 0 0<256∧s.rd+(cd (t.getD 0 0)).1≤64:=by
  cases t with
  |nil=>simp at ht
  |cons c t=>
    have hc:=h.all c List.mem_cons_self;obtain⟨DK,h1,hl,h2⟩:=hT.one c hc;have hL:=hT.L16;have htR:=JT hT t (fun x hx=>h.all x (List.mem_cons_of_mem _ hx));have hn:tN cd (c::t)=(cd c).1+tN cd t:=rfl;have kL:s.rd+(cd c).1≤64:=by
      rcases hr with h'|h'
      · omega
      · have:=h.pos.n;rw[hn,h'] at this;omega
    have ha:=h.pos.adv hb (m:=(cd c).1) Om kL;refine⟨⟨?_,fun x hx=>h.all x (List.mem_cons_of_mem _ (by simpa using hx))⟩,h1,hl,DK,kL⟩;rw[hn,show(cd c).1+tN cd t-(cd c).1=tN cd t by omega] at ha;show Pos xs k len (s.adv (cd c).1) (tN cd t) (tR cd t);have:tR cd (c::t)%2^tN cd t=tR cd t:=by
      show((cd c).2*2^tN cd t+tR cd t)%_=_;rw[Nat.mul_comm,Nat.mul_add_mod,Nat.mod_eq_of_lt htR]
    grind
end
section
variable {P:Program} {K:Kx} {Q:Exit→Act→World→Prop} {ρ:aB} {l r p rest:List au} {o:Oper} {v:Value} {x y z:Operand} {t s f sz n m c lo hi len cap b q j d:Nat} {k k':IntKind}
theorem G.pick {cd:Code} (is:List Nat) (hp:pickS is l=some (p,rest)) (h:G P K Q cd ρ p r):G P K Q cd ρ l r:=fun a w ha=>h a w (ha.pick is hp)
theorem GQ.pick {e:Exit} (is:List Nat) (hp:pickS is l=some (p,rest)) (h:GQ K Q e ρ p r):GQ K Q e ρ l r:=fun a w ha=>h a w (ha.pick is hp)
theorem G.dh {x:Code} (M:aB→List au→Prop) (h:G P K (Exit.then (fun a w=>∃ρ l,M ρ l∧At K ρ l r a w) Q) x ρ l r) (k:∀ρ l,M ρ l→GQ K Q .normal ρ l r):G P K Q x ρ l r:=by
  refine fun a w ha=>wp_mono (h a w ha) ?_
  intro e a' w' hq;cases e with
  |normal=>obtain⟨ρ',l',hM,hA⟩:=hq;exact k ρ' l' hM a' w' hA
  |_=>exact hq
def ew (i:Value) (s:BR):List Value:=[i,.int .u64 ((s.off:Nat):Int),.int .u64 ((s.val:Nat):Int),.int .u8 ((s.rd:Nat):Int)]
theorem aE.ay {f:FuncId} {args:List Value} {u iv:Value} {b o:Nat} {sh:Option (TypeId × Nat)} {s0:BR} (R:BR→Prop) (h:aE P f args l r (fun v l'=>v=u∧l'=[⟨b,o,ew iv s0,sh⟩])) (hR:R s0):
    aE P f args l r (fun v l'=>v=u∧∃s',R s'∧l'=[⟨b,o,ew iv s',sh⟩]):=h.mono fun v l' ⟨h1,h2⟩=>⟨h1,s0,hR,h2⟩
theorem dd {m k:Nat} (h:m<2^k):m&&&(2^k-1)=m:=by rw[Nat.and_two_pow_sub_one_eq_mod,Nat.mod_eq_of_lt h]
theorem af {u:Value} (h:aH P ρ o u) (e:u=v):aH P ρ o v:=e▸h
theorem W5 (s:BR) (L:Nat) (h1:1≤L) (h:L≤16) (hv:s.val<18446744073709551616):s.ab6 L=s.val/2^(64-L):=by
  unfold BR.ab6;rw[show(64-L)&&&63=64-L by rw[show(63:Nat)=2^6-1 from rfl,Nat.and_two_pow_sub_one_eq_mod];exact Nat.mod_eq_of_lt Om];apply Nat.mod_eq_of_lt;rw[Nat.div_lt_iff_lt_mul (Nat.pow_pos Om)];have:(65536:Nat)*2^(64-L)=2^(80-L):=by rw[show(65536:Nat)=2^16 from rfl, ←Nat.pow_add];congr 1;omega
  rw[this];exact Nat.lt_of_lt_of_le hv (Nat.pow_le_pow_right (n:=2) Om (show 64≤80-L by omega))
theorem W6 {T T':TypeId} {zv:Value} (ho:o.op=.typeAssert x T T' true) (hx:ev ρ x=some .nilIface) (hz:(P.info? T').bind (·.zero)=some zv) (hT:(match P.underlying T' with|some (.pointer _)=>true|_=>false)=true):aH P ρ o (.tuple #[zv,.bool false]):=fun ac ha w=>by
  cases hu:P.underlying T' with
  |none=>simp[hu] at hT
  |some D=>
    cases D<;>simp[hu] at hT;cases hi:P.info? T' with
    |none=>simp[hi] at hz
    |some i=>
      simp[hi] at hz;simp[execOp,ho,bf ha hx,Instr.typeAssert,aK hu,zeroValue,kj hi,hz]
theorem ata {cs:List Value} (ho:o.op=.build t #[]) (hz:vH P t=some cs) (hu:(match P.underlying t with|some (.array _ e)=>(eW P e).isSome|_=>false)=true):aH P ρ o (.agg cs.toArray):=fun ac ha w=>by
  unfold vH at hz;cases hi:P.info? t with
  |none=>simp[hi] at hz
  |some i=>
    cases rM:i.zero with
    |none=>simp[hi,rM] at hz
    |some zv=>
      simp[hi,rM] at hz;have DG:zv.cells=cs.toArray:=by apply Array.toList_inj.1;simpa using hz
      cases hu':P.underlying t with
      |none=>simp[hu'] at hu
      |some D=>
        cases D<;>simp[hu'] at hu;rename_i n e;obtain⟨sz,hs⟩:=Option.isSome_iff_exists.1 hu;simp[execOp,ho,Instr.build,zeroValue,kj hi,rM,aK hu',cH hs,Instr.fill,DG]
theorem Oc {d:Nat} {cs:List Value} (ho:o.op=.box t x) (hx:ev ρ x=some (.agg cs.toArray)) (hd:o.dst=some d) (hn:Nat.blt d K.n=true):
    kC P K ρ l r o (fun ρ' l'=>∃b,ρ'=(d,.pointer (some ⟨b,0,none⟩))::ρ∧l'=⟨b,0,cs,some (t,cs.length)⟩::l):=
  jS ho hx rfl hd hn
end
theorem aA {k:IntKind} {xs:List Nat} {j e:Nat} (h:j<xs.length) (he:xs.getD j 0=e):(aa k xs)[j]? =some (.int k ((e:Nat):Int)):=he▸aM h
theorem ah {k:IntKind} {xs:List Nat} {j e:Nat} (h:j<xs.length) (he:xs.getD j 0=e):((aa k xs).drop j).take 1=[.int k ((e:Nat):Int)]:=he▸Gs h
theorem aP {s:BR} {n:Nat} (h:s.rd+n≤64):(s.adv n).rd=s.rd+n:=by simp[BR.adv];omega
theorem aJ.get {xs dt:List Nat} {k len L:Nat} {cd:Nat→Nat × Nat} {S:Nat→Prop} {s:BR} {c:Nat} {t:List Nat} (h:aJ xs k len cd S s (c::t)) (hT:wD dt L cd S) (hb:Bytes xs) (hr:s.rd+L≤64∨s.off=0):
    ∃n p,s.val/2^(64-L)=p∧dt.getD p 0=n+256*c∧p<2^L∧c<256∧1≤n∧n≤L∧s.rd+n≤64∧tN cd (c::t)=n+tN cd t∧aJ xs k len cd S (s.adv n) t:=by
  obtain⟨h1,h2⟩:=h.look hT hb Oi hr;obtain⟨h3,h4,h5,h6,h7⟩:=h.next hT hb Oi hr;exact⟨(cd c).1,_,rfl,h1,h2,h6,h4,h5,h7,rfl,h3⟩
theorem kM {t:List Nat} (h:4≤t.length):∃c1 c2 c3 c4 t',t=c1::c2::c3::c4::t':=by
  match t,h with
  |c1::c2::c3::c4::t',_=>exact⟨c1,c2,c3,c4,t',rfl⟩
theorem Gu {t:List Nat} (h:0<t.length):∃c t',t=c::t':=by
  match t,h with
  |c::t',_=>exact⟨c,t',rfl⟩
theorem jo {dt:List Nat} {L B:Nat} {cd:Nat→Nat × Nat} {S:Nat→Prop} (h:wD dt L cd S) (hB:L≤B) {t:List Nat} (ha:∀c ∈ t,S c):tN cd t≤B*t.length∧t.length≤tN cd t:=by
  have h1:=aac h t ha;exact⟨Nat.le_trans h1.1 (Nat.mul_le_mul_right _ hB),h1.2⟩
theorem tj {ys B:List Nat} {n c:Nat} (h:ys.take n=B) (hn:n<ys.length):(ys.set n c).take (n+1)=B++[c]:=by
  rw[List.take_succ_eq_append_getElem (by simpa using hn),List.take_set_of_le (Nat.le_refl n),h];simp
theorem xF {ys B:List Nat} {n c1 c2 c3 c4:Nat} (h:ys.take n=B) (hn:n+4≤ys.length):((((ys.set (n+0) c1).set (n+1) c2).set (n+2) c3).set (n+3) c4).take (n+4)=B++[c1,c2,c3,c4]:=by
  have h1:=tj (c:=c1) h Om;have h2:=tj (c:=c2) h1 Oz;have h3:=tj (c:=c3) h2 Oz;have h4:=tj (c:=c4) h3 Oz;simpa using h4
theorem cT {p:Option Addr} {a a' b b':Nat} (h1:a=a') (h2:b=b'):Value.slice p a b=Value.slice p a' b':=by rw[h1,h2]
theorem uV:Array.range 1= #[0]:=by decide
theorem uW:Array.range 2= #[0,1]:=by decide
theorem uX:Array.range 3= #[0,1,2]:=by decide
theorem rQ {L m:Nat} (h:L≤m):2^L≤2^m:=Nat.pow_le_pow_right Om h
theorem aJ.aX {xs:List Nat} {k len:Nat} {cd:Nat→Nat × Nat} {S:Nat→Prop} {s:BR} {t:List Nat} (h:aJ xs k len cd S s t) (hb:Bytes xs) (ho:32≤s.rd→4≤s.off):
    aJ xs k len cd S (s.aX xs k) t∧(s.aX xs k).rd≤32∧s.off≤(s.aX xs k).off+4∧(s.aX xs k).off≤s.off:=by
  obtain⟨h1,h2⟩:=h.pos.aX hb ho;refine⟨⟨h1,h.all⟩,h2,?_,?_⟩<;>(unfold BR.aX;split<;>simp[BR.eX]<;>omega)
theorem aJ.fill {xs:List Nat} {k len T:Nat} {cd:Nat→Nat × Nat} {S:Nat→Prop} {s:BR} {t:List Nat} (h:aJ xs k len cd S s t) (hb:Bytes xs) (hT:4≤T) (h8:32≤s.rd→s.off<T→8*s.off≤s.rd):
    aJ xs k len cd S (BR.fill T xs k s) t∧((BR.fill T xs k s).rd≤32∨(BR.fill T xs k s).off=0)∧(BR.fill T xs k s).off≤s.off:=by
  obtain⟨h1,h2⟩:=h.pos.fill hb hT h8;refine⟨⟨h1,h.all⟩,h2,?_⟩;grind [BR.fill,BR.eX,BR.jX]
theorem aJ.bu {xs:List Nat} {k len:Nat} {cd:Nat→Nat × Nat} {S:Nat→Prop} {s:BR} {t:List Nat} (h:aJ xs k len cd S s t) (hb:Bytes xs) (hr:8≤s.rd) (ho:0<s.off):aJ xs k len cd S (s.bu xs k) t:=⟨h.pos.bu hb hr ho,h.all⟩
theorem Oe (v L:Nat) (h:L≤8) (hv:v<18446744073709551616):v/2^56%256/2^(8-L)=v/2^(64-L):=by
  rw[Nat.mod_eq_of_lt Om,Nat.div_div_eq_div_mul, ←Nat.pow_add];congr 2;omega
theorem aJ.left {xs:List Nat} {k len:Nat} {cd:Nat→Nat × Nat} {S:Nat→Prop} {s:BR} {t:List Nat} (h:aJ xs k len cd S s t):tN cd t=8*s.off+(64-s.rd)∧s.rd≤64∧s.off≤len:=⟨h.pos.n,h.pos.rd,h.pos.ok.off⟩
structure Rd (q:Option Addr) (n sz:Nat) (row:List Value) (s:au) (j:Nat):Prop where
  len:row.length=n*sz
  ad:0<n→q=some ⟨s.b,s.o+j,none⟩
  cs:(s.cs.drop j).take row.length=row
theorem Rd.get {q:Option Addr} {n sz:Nat} {row:List Value} {s:au} {j i:Nat} (h:Rd q n sz row s j) (hi:i<row.length):s.cs[j+i]? =row[i]? :=by
  have h1:=congrArg (fun l:List Value=>l[i]?) h.cs;grind
theorem Rd.Bv {q:Option Addr} {n:Nat} {k:IntKind} {xs:List Nat} {s:au} {j i:Nat} (h:Rd q n 1 (aa k xs) s j) (hi:i<n):s.cs[j+i]? =some (.int k ((xs.getD i 0:Nat):Int)):=by
  have hl:xs.length=n:=by have:=h.len;simpa using this
  rw[h.get Oz,aM Om]
theorem Rd.lV {q:Option Addr} {n:Nat} {k:IntKind} {xs:List Nat} {s:au} {j:Nat} (h:Rd q n 1 (aa k xs) s j):xs.length=n:=by have:=h.len;simpa using this
theorem Rd.atb {q:Option Addr} {b o n sz cap:Nat} {cs row:List Value} {sh:Option (TypeId × Nat)} (hg:GS q b o cs sz cap) (hn:n≤cap) (hp:cs.take (n*sz)=row):Rd q n sz row ⟨b,o,cs,sh⟩ 0:=by
  have hle:n*sz≤cap*sz:=Nat.mul_le_mul_right _ hn;have hl:row.length=n*sz:=by rw[←hp,List.length_take,hg.len];omega
  refine⟨hl,fun h0=>by have:=hg.ay Om;simpa using this,?_⟩;grind
theorem Rd.q5 {q:Option Addr} {b o n cap:Nat} {k:IntKind} {cs:List Value} {xs:List Nat} {sh:Option (TypeId × Nat)} (hg:GS q b o cs 1 cap) (hn:n≤cap) (hp:cs.take n=aa k xs):Rd q n 1 (aa k xs) ⟨b,o,cs,sh⟩ 0:=Rd.atb hg hn (by rw[Nat.mul_one];exact hp)
theorem Rd.abW {b o a n j:Nat} {k:IntKind} {xs ys:List Nat} {sh:Option (TypeId × Nat)} (hj:a=o+j) (hy:(xs.drop j).take n=ys) (hn:j+n≤xs.length):Rd (some ⟨b,a,none⟩) n 1 (aa k ys) ⟨b,o,aa k xs,sh⟩ j:=by
  subst hj;subst hy;refine⟨Oz,fun _=>rfl,dr _ _ _⟩
theorem Rd.nil {row:List Value} {s:au} {sz:Nat} (h:row=[]):Rd none 0 sz row s 0:=by
  subst h;exact⟨Oi,fun h=>Om,Oi⟩
theorem Rd.cut {q q':Option Addr} {n m lo sz:Nat} {row W7:List Value} {s:au} {j:Nat} (h:Rd q n sz row s j) (hm:lo+m≤n) (hr:(row.drop (lo*sz)).take (m*sz)=W7) (hq:0<m→q'=some ⟨s.b,s.o+(j+lo*sz),none⟩):Rd q' m sz W7 s (j+lo*sz):=by
  have hle:lo*sz+m*sz≤n*sz:=by rw[←Nat.add_mul];exact Nat.mul_le_mul_right _ hm
  have hl:W7.length=m*sz:=by rw[←hr,List.length_take,List.length_drop,h.len];omega
  refine⟨hl,hq,?_⟩;rw[hl, ←hr];have h1:=h.cs;rw[h.len] at h1;rw[←h1,List.drop_take,List.take_take,List.drop_drop];congr 1;omega
theorem Rd.front {q:Option Addr} {n hi:Nat} {k:IntKind} {xs:List Nat} {s:au} {j:Nat} (h:Rd q n 1 (aa k xs) s j) (hm:hi≤n):Rd q hi 1 (aa k (xs.take hi)) s j:=by
  have h1:=h.len;have:=h.cut (lo:=0) (m:=hi) (W7:=aa k (xs.take hi)) (q':=q) Om (by simp[aa,List.map_take]) (fun h0=>by rw[Nat.zero_mul,Nat.add_zero];exact h.ad Om);omega
theorem Of {cs:List Value} {n hi:Nat} {k:IntKind} {xs:List Nat} (h:cs.take n=aa k xs) (hh:hi≤n):cs.take hi=aa k (xs.take hi):=by
  have:=congrArg (fun l:List Value=>l.take hi) h;simpa [List.take_take,Nat.min_eq_left hh,aa,List.map_take] using this
theorem Src.ajR {l r:List au} {q:Option Addr} {n sz:Nat} {row:List Value} {s:au} {j:Nat} (i:Nat) (hs:nthS i (l++r)=some s) (h:Rd q n sz row s j):Src l r q row:=by
  rcases Nat.eq_zero_or_pos n with h0|h0
  · left;have:=h.len;simp_all
  · exact .inr ⟨s,dq _ _ _ hs,j,h.ad h0,h.cs⟩
section
variable {P:Program} {K:Kx} {Q:Exit→Act→World→Prop} {ρ:aB} {l r:List au} {o:Oper} {v:Value} {x y z:Operand} {t s f sz n m lo hi len cap b q j:Nat} {k k':IntKind} {p:Option Addr}
theorem o6 {q':Nat} (ho:o.op=.indexAddr t x y) (hx:ev ρ x=some (.slice p len cap)) (hy:ev ρ y=some (.int k (m:Nat))) (hP:cJ P t=some sz) (h:m<len) (hp:p=some ⟨b,q,none⟩) (hq:q+m*sz=q'):aH P ρ o (.pointer (some ⟨b,q',none⟩)):=by
  grind [eI]
def lj (p:Option Addr) (lo sz cap:Nat):Option Addr:=p.bind fun a=>some (if cap=lo then a else a.add (lo*sz))
theorem qo {b q lo sz cap q':Nat} {p:Option Addr} (hp:p=some ⟨b,q,none⟩) (h:lo<cap) (hq:q+lo*sz=q'):lj p lo sz cap=some ⟨b,q',none⟩:=by
  grind [lj,df]
theorem ajS (ho:o.op=.slice t x (some y) (some z) none) (hx:ev ρ x=some (.slice p len cap)) (hy:ev ρ y=some (.int k (lo:Nat))) (hz:ev ρ z=some (.int k' (hi:Nat))) (hP:cJ P t=some sz) (h:lo≤hi∧hi≤cap) (hp:p=none→cap=0):aH P ρ o (.slice (lj p lo sz cap) (hi-lo) (cap-lo)):=by
  intro ac ha w;unfold cJ at hP;cases hu:P.underlying t with
  |none=>simp[hu] at hP
  |some D=>
    cases D<;>simp[hu] at hP;cases p with
    |none=>
      have h0:=hp rfl;obtain rfl:lo=0:=Om;obtain rfl:hi=0:=Om;subst h0;simp[execOp,ho,bf ha hx,bf ha hy,bf ha hz,Instr.sliceAt,aK hu,Instr.slice,Instr.sliceBounds,Instr.sliceBound,asIntOf,cH hP,lj]
    |some a=>simp[execOp,ho,bf ha hx,bf ha hy,bf ha hz,Instr.sliceAt,aK hu,Instr.slice,Instr.sliceBounds,Instr.sliceBound,asIntOf,cH hP,h.1,h.2,lj];split<;>rfl
def PA (p:Option Addr) (cap:Nat):Prop:=(∃b q:Nat,p=some ⟨b,q,none⟩)∨(p=none∧cap=0)
theorem PA.xG (h:PA p cap):p=none→cap=0:=fun e=>by
  rcases h with ⟨b,q,h⟩|⟨_,h⟩
  · grind
  · exact h
theorem Gv (ho:o.op=.slice t x none (some z) none) (hx:ev ρ x=some (.slice p len cap)) (hz:ev ρ z=some (.int k' (hi:Nat))) (hP:cJ P t=some sz) (h:hi≤cap) (hp:PA p cap):aH P ρ o (.slice p hi cap):=by
  intro ac ha w;unfold cJ at hP;cases hu:P.underlying t with
  |none=>simp[hu] at hP
  |some D=>
    cases D<;>simp[hu] at hP;rcases hp with ⟨b,q,rfl⟩|⟨rfl,h0⟩;rotate_left
    · obtain rfl:hi=0:=Om;subst h0;simp[execOp,ho,bf ha hx,bf ha hz,Instr.sliceAt,aK hu,Instr.slice,Instr.sliceBounds,Instr.sliceBound,asIntOf,cH hP]
    · simp[execOp,ho,bf ha hx,bf ha hz,Instr.sliceAt,aK hu,Instr.slice,Instr.sliceBounds,Instr.sliceBound,asIntOf,cH hP,h,df]
theorem Bw (ho:o.op=.slice t x (some y) none none) (hx:ev ρ x=some (.slice p len cap)) (hy:ev ρ y=some (.int k (lo:Nat))) (hP:cJ P t=some sz) (h:lo≤len∧len≤cap) (hp:p=none→cap=0):aH P ρ o (.slice (lj p lo sz cap) (len-lo) (cap-lo)):=by
  intro ac ha w;unfold cJ at hP;cases hu:P.underlying t with
  |none=>simp[hu] at hP
  |some D=>
    cases D<;>simp[hu] at hP;cases p with
    |none=>
      have h0:=hp rfl;subst h0;obtain rfl:len=0:=Om;obtain rfl:lo=0:=Om;simp[execOp,ho,bf ha hx,bf ha hy,Instr.sliceAt,aK hu,Instr.slice,Instr.sliceBounds,Instr.sliceBound,asIntOf,cH hP,lj]
    |some a=>simp[execOp,ho,bf ha hx,bf ha hy,Instr.sliceAt,aK hu,Instr.slice,Instr.sliceBounds,Instr.sliceBound,asIntOf,cH hP,h.1,h.2,lj];split<;>rfl
theorem DM {bo:BinOp} {e:Nat} {ty bY:TypeId} (hb:bo=.eql∨bo=.neq) (ho:o.op=.binOp bo ty x (.const (.slice none 0 0)) bY) (hx:ev ρ x=some (.slice p len cap)) (hu:P.underlying ty=some (.slice e)):aH P ρ o (.bool (if bo=.eql then p.isNone else !p.isNone)):=fun ac ha w=>by
  have h:∀w,(Op.equal ty (.slice p len cap) (.slice none 0 0)).run P w=.ok p.isNone w:=fun w=>by
    have:∀d,(Op.equalIn (d+1) ty (.slice p len cap) (.slice none 0 0)).run P w=.ok p.isNone w:=fun d=>by cases p<;>simp[Op.equalIn,aK hu]
    exact this 9999
  have hg:(eqGuard bo ty x (.const (.slice none 0 0)) (.slice p len cap) (.slice none 0 0)).run P w=.ok () w:=by
    unfold eqGuard;simp_all
  have hr:(binOp bo ty (.slice p len cap) (.slice none 0 0)).run P w=.ok (.bool (if bo=.eql then p.isNone else !p.isNone)) w:=by
    rcases hb with rfl|rfl<;>simp[binOp,h]
  have ab3:ac.eval (.const (.slice none 0 0))=.slice none 0 0:=rfl;simp only[execOp,ho,bf ha hx,ab3,Sem.run_bind,hg,hr,Result.andThen_ok,Sem.run_pure]
theorem Lm {e:Nat} {ty bY:TypeId} (ho:o.op=.binOp .eql ty x (.const (.slice none 0 0)) bY) (hx:ev ρ x=some (.slice p len cap)) (hu:P.underlying ty=some (.slice e)):aH P ρ o (.bool p.isNone):=DM (.inl rfl) ho hx hu
theorem Ln {e:Nat} {ty bY:TypeId} (ho:o.op=.binOp .neq ty x (.const (.slice none 0 0)) bY) (hx:ev ρ x=some (.slice p len cap)) (hu:P.underlying ty=some (.slice e)):aH P ρ o (.bool !p.isNone):=DM (.inr rfl) ho hx hu
end
theorem GS.pa {q:Option Addr} {b o sz cap:Nat} {cs:List Value} (h:GS q b o cs sz cap):PA q cap:=by
  rcases h.ad with h'|h'
  · exact .inl ⟨_,_,h'⟩
  · exact .inr h'
theorem PA.some {b q cap:Nat}:PA (some ⟨b,q,none⟩) cap:=.inl ⟨_,_,rfl⟩
theorem PA.cut {p:Option Addr} {lo sz cap:Nat} (h:PA p cap):PA (lj p lo sz cap) (cap-lo):=by
  rcases h with ⟨b,q,rfl⟩|⟨rfl,h⟩
  · left;simp only[lj,Option.bind_some,df];split
    · grind
    · grind
  · exact .inr ⟨rfl,Om⟩
def rows {α:Type} (f:α→List Value) (xs:List α):List Value:=xs.flatMap f
section
variable {α:Type} {f:α→List Value} {sz:Nat}
theorem bK (hf:∀x,(f x).length=sz):∀xs:List α,(rows f xs).length=xs.length*sz
  |[]=>by simp[rows]
  |x::xs=>by
    have:=bK hf xs;grind [rows]
theorem DN (xs ys:List α):rows f (xs++ys)=rows f xs++rows f ys:=by simp[rows]
theorem qq (hf:∀x,(f x).length=sz):∀(xs:List α) (i:Nat),(rows f xs).drop (i*sz)=rows f (xs.drop i)
  |xs,0=>by simp
  |[],i+1=>by simp[rows]
  |x::xs,i+1=>by
    have:=qq hf xs i;simp only[rows,List.flatMap_cons,List.drop_succ_cons] at this ⊢;rw[Nat.add_mul,Nat.one_mul,Nat.add_comm, ←List.drop_drop,List.drop_left' (hf x)];exact this
theorem uY (hf:∀x,(f x).length=sz):∀(xs:List α) (i:Nat),(rows f xs).take (i*sz)=rows f (xs.take i)
  |xs,0=>by simp[rows]
  |[],i+1=>by simp[rows]
  |x::xs,i+1=>by
    have:=uY hf xs i;simp only[rows,List.flatMap_cons,List.take_succ_cons] at this ⊢;rw[Nat.add_mul,Nat.one_mul,Nat.add_comm, ←hf x,List.take_length_add_append,hf x,this]
theorem cK (hf:∀x,(f x).length=sz) (d:α) {xs:List α} {i:Nat} (hi:i<xs.length):((rows f xs).drop (i*sz)).take sz=f (xs.getD i d):=by
  rw[qq hf,List.drop_eq_getElem_cons hi];grind [rows]
theorem mB (hf:∀x,(f x).length=sz) (d:α) {xs:List α} {i e:Nat} (hi:i<xs.length) (he:e<sz):(rows f xs)[i*sz+e]? =(f (xs.getD i d))[e]? :=by
  rw[←cK hf d hi,List.getElem?_take,if_pos he,List.getElem?_drop]
theorem Og (hf:∀x,(f x).length=sz) {xs:List α} {i:Nat} (hi:i<xs.length) (y:α):spl (rows f xs) (i*sz) (f y)=rows f (xs.set i y):=by
  have hl:i*sz+sz≤xs.length*sz:=by rw[←Nat.succ_mul];exact Nat.mul_le_mul_right _ hi
  rw[uT _ _ _ (by rw[hf,bK hf];exact hl),hf,uY hf,show i*sz+sz=(i+1)*sz by rw[Nat.succ_mul],qq hf,List.set_eq_take_append_cons_drop,if_pos hi];simp[rows]
theorem fQ (hf:∀x,(f x).length=sz) (d:α) {xs:List α} {i e:Nat} {v:Value} {y:α} (hi:i<xs.length) (he:e<sz) (h:(f (xs.getD i d)).set e v=f y):(rows f xs).set (i*sz+e) v=rows f (xs.set i y):=by
  have hl:i*sz+sz≤xs.length*sz:=by rw[←Nat.succ_mul];exact Nat.mul_le_mul_right _ hi
  rw[←Og hf hi y, ←h];rw[uT _ _ _ (by rw[List.length_set,hf,bK hf];exact hl),List.length_set,hf];have h1:rows f xs=(rows f xs).take (i*sz)++(f (xs.getD i d)++(rows f xs).drop (i*sz+sz)):=by
    rw[←cK hf d hi, ←List.drop_drop,List.take_append_drop,List.take_append_drop]
  conv=>lhs;rw[h1]
  grind
end
def W8 (k:IntKind) (Φ:List Nat→Prop) (v:Value) (l':List au):Prop:=∃q b o cs cap xs n,v=.slice q n cap∧GS q b o cs 1 cap∧n≤cap∧cs.take n=aa k xs∧xs.length=n∧Φ xs∧l'=[⟨b,o,cs,none⟩]
theorem W8.mk {k:IntKind} {Φ:List Nat→Prop} {P:List Nat} {m:Nat} {q:Option Addr} {b o cap:Nat} {cs:List Value} (hg:GS q b o cs 1 cap) (hc:m≤cap) (hp:cs.take m=aa k P) (hl:P.length=m) (h:Φ P):W8 k Φ (.slice q m cap) [⟨b,o,cs,none⟩]:=⟨q,b,o,cs,cap,P,m,rfl,hg,hc,hp,hl,h,rfl⟩
theorem GS.set {q:Option Addr} {b o sz cap:Nat} {cs:List Value} (h:GS q b o cs sz cap) (j:Nat) (v:Value):GS q b o (cs.set j v) sz cap:=⟨by rw[List.length_set];exact h.len,h.ad⟩
theorem JU {cs:List Value} {n j:Nat} {k:IntKind} {xs:List Nat} (h:cs.take n=aa k xs) (hj:j<n) (v:Nat):(cs.set j (.int k ((v:Nat):Int))).take n=aa k (xs.set j v):=by
  rw[List.take_set,h,s6]
def bls (xs:List Bool):List Value:=xs.map .bool
@[simp] theorem ab7 (xs:List Bool):(bls xs).length=xs.length:=by simp[bls]
section
variable {P:Program} {K:Kx} {Q:Exit→Act→World→Prop} {ρ:aB} {l r:List au} {o:Oper} {v:Value} {x y z:Operand} {t e n m:Nat} {k:IntKind}
theorem gr {c:Call} {f:FuncId} {args:List Value} {lc rest rc:List au} {dz:Value→List au→Prop} {d:Nat} (is:List Nat) (uJ:aE P f args lc rc dz) (ho:o.op=.call c) (hf:c.callee=.value (.func f)) (f':evs ρ c.args.toList=some args)
    (hl:pickS is l=some (lc,rest)) (ME:∀s ∈ rc,s ∈ rest++r) (hd:o.dst=some d) (hn:Nat.blt d K.n=true):
    kC P K ρ l r o (fun ρ' l'=>∃v wy,dz v wy∧ρ'=(d,v)::ρ∧l'=wy++rest):=by
  intro a w ha nx Q mf;have hA:=ha.perm (iI _ _ _ _ hl);have hca:=uJ.run w (hA.st.N3 ME);have iJ:(c.args.map a.eval)=args.toArray:=by
    have:=oV ha.fr _ _ f';grind
  have e:(execOp a.eval o).run P w=.ok (.enter f args.toArray) w:=by
    simp[execOp,ho,resolve,hf,iJ,Act.eval,Deferred.ofValue,invoke,ng uJ.can]
  unfold Oper.wp;rw[e];simp only[Oper.upon];refine hca.mono fun e w' hE=>?_
  obtain⟨v,wy,rfl,hP,hk,ie,Dy⟩:=hE.out;simp only[hd];exact mf _ _ ⟨(d,v)::ρ,wy++rest,⟨v,wy,hP,rfl,rfl⟩,(hA.uP ME hk ie Dy).put hn v⟩
end
section
variable {P:Program} {ρ:aB} {o:Oper} {x:Operand} {ty:TypeId} {a:Int}
end
theorem int_eq {k:IntKind} {a b:Int} (h:a=b):Value.int k a=Value.int k b:=by rw[h]
theorem fo {P:Program} {ρ:aB} {l r:List au} {o:Oper} {u v:Value} (h:n3 P ρ l r o u) (e:u=v):n3 P ρ l r o v:=e▸h
def f3 (c:Nat × Nat × Nat):List Value:=[.int .i64 ((c.1:Nat):Int),.int .i64 ((c.2.1:Nat):Int),.int .i64 ((c.2.2:Nat):Int)]
section
variable {P:Program} {K:Kx} {Q:Exit→Act→World→Prop} {ρ:aB} {l r:List au} {o:Oper} {v:Value} {x y z:Operand} {t n m cap sz d:Nat}
end
theorem jY (xs:List Nat) (k a:Nat):∀b,tailV xs k (a+b)=tailV xs k a+tailV xs (k+a) b*2^(8*a)
  |0=>by simp[tailV]
  |b+1=>by
    rw[←Nat.add_assoc];simp only[tailV,jY xs k a b,Nat.add_mul,Nat.mul_add,Nat.pow_add,Nat.add_assoc];grind
theorem iS {xs ys:List Nat} {k k':Nat}:∀n,(∀i,i<n→xs.getD (k+i) 0=ys.getD (k'+i) 0)→tailV xs k n=tailV ys k' n
  |0,_=>rfl
  |n+1,h=>by
    simp only[tailV];rw[iS n (fun i hi=>h i Om),h n Om]
theorem aS {xs:List Nat} {i j v:Nat} (h:i<xs.length):(xs.set i v).getD j 0=if i=j then v else xs.getD j 0:=by
  grind
theorem uZ {xs:List Nat} (h:Bytes xs) (k:Nat) {m n:Nat} (hm:m≤n):tailV xs k n%2^(8*m)=tailV xs k m:=by
  obtain⟨d,rfl⟩:∃d,n=m+d:=⟨n-m,Om⟩;rw[jY,Nat.add_mul_mod_self_right,Nat.mod_eq_of_lt (gK h k m)]
theorem xH {xs:List Nat} (h:Bytes xs) {j n:Nat} (hj:j<n):tailV xs 0 n/2^(8*j)%256=xs.getD j 0:=by
  obtain⟨d,rfl⟩:∃d,n=(j+1)+d:=⟨n-(j+1),Om⟩;have hx:=h.at_ j;have ht:=gK h 0 j;have p:0<2^(8*j):=Nat.pow_pos Om;rw[jY];simp only[tailV,Nat.zero_add];rw[show 8*(j+1)=8+8*j by omega,Nat.pow_add, ←Nat.mul_assoc,Nat.add_assoc, ←Nat.add_mul,Nat.add_mul_div_right _ _ p,Nat.div_eq_of_lt ht];omega
theorem Pos.start {xs:List Nat} {k len t:Nat} (hb:Bytes xs) (ht:4≤t) (hl:1≤len):Pos xs k len (BR.start t xs k len) (8*len) (tailV xs k len)∧((BR.start t xs k len).rd≤32∨(BR.start t xs k len).off=0):=by
  unfold BR.start;split
  · rename_i h8;refine⟨⟨⟨Oi,nr hb _,Oi⟩,Oi,Oz,my xs (k+(len-8)),Oi,by simpa using nr hb _,?_⟩,.inl Oi⟩;show tailV xs k len=my xs (k+(len-8))*2^(8*(len-8))+tailV xs k (len-8);rw[DJ hb];have:=jY xs k (len-8) 8;grind
  · rename_i h8;have h0:Pos xs k len ⟨len,0,64⟩ (8*len) (tailV xs k len):=⟨⟨Nat.le_refl _,Oi,Oi⟩,Oi,Oi,0,Oi,Oi,Oi⟩;obtain⟨h1,WZ⟩:=h0.fill (t:=t) hb ht (fun _ _=>Oz);have hs:=BR.rP (t:=t) (xs:=xs) (k:=k) ht (show len<8 by omega);exact h1.fill hb ht (fun _ _=>hs)
theorem Pos.init {xs:List Nat} {k len t:Nat} (hb:Bytes xs) (ht:4≤t) (hl:1≤len) (h0:0<xs.getD (k+(len-1)) 0):
    Pos xs k len (BR.init t xs k len) (8*(len-1)+(aq (xs.getD (k+(len-1)) 0)-1)) (tailV xs k len%2^(8*(len-1)+(aq (xs.getD (k+(len-1)) 0)-1))):=by
  obtain⟨h,hr⟩:=Pos.start (t:=t) (k:=k) hb ht hl;have hx:=hb.at_ (k+(len-1));have h8:aq (xs.getD (k+(len-1)) 0)≤8:=cS Om;have h1:=dA h0;have kL:(BR.start t xs k len).rd+(8-(aq (xs.getD (k+(len-1)) 0)-1))≤64:=by
    rcases hr with hr|hr
    · omega
    · have:=h.n;rw[hr] at this;omega
  have:=h.adv hb (m:=8-(aq (xs.getD (k+(len-1)) 0)-1)) Om kL;rw[show 8*len-(8-(aq (xs.getD (k+(len-1)) 0)-1))=8*(len-1)+(aq (xs.getD (k+(len-1)) 0)-1) by omega] at this;exact this
theorem Ag {n r:Nat} (h:r<2^n):aq (2^n+r)=n+1:=by
  have h1:=cS (n:=2^n+r) (k:=n+1) (by rw[Nat.pow_succ];omega);have h2:=iD (2^n+r);rcases Nat.lt_or_ge n (aq (2^n+r)) with h|h
  · omega
  · have:=Nat.pow_le_pow_right (n:=2) Om h;omega
theorem Pos.tk {xs:List Nat} {k len t n R:Nat} (hb:Bytes xs) (ht:4≤t) (hl:len=n/8+1) (hR:R<2^n) (hv:tailV xs k len=2^n+R):
    Pos xs k len (BR.init t xs k len) n R∧0<xs.getD (k+(len-1)) 0:=by
  subst hl;simp only[tailV] at hv;rw[Nat.add_sub_cancel];have wE:=gK hb k (n/8);generalize hx:xs.getD (k+n/8) 0=x at hv;have hp:0<2^(8*(n/8)):=Nat.pow_pos Om;have e:(2:Nat)^n=2^(n%8)*2^(8*(n/8)):=by rw[←Nat.pow_add];congr 1;omega
  have zi:x=2^(n%8)+R/2^(8*(n/8)):=by
    have h1:x=(tailV xs k (n/8)+x*2^(8*(n/8)))/2^(8*(n/8)):=by rw[Nat.add_mul_div_right _ _ hp,Nat.div_eq_of_lt wE,Nat.zero_add]
    rw[h1,hv,e,Nat.add_comm,Nat.add_mul_div_right _ _ hp,Nat.add_comm]
  have hr8:R/2^(8*(n/8))<2^(n%8):=by rw[Nat.div_lt_iff_lt_mul hp, ←e];exact hR
  have MG:aq x=n%8+1:=by rw[zi];exact Ag hr8
  have rR:0<x:=by rw[zi];exact Nat.lt_of_lt_of_le (Nat.pow_pos Om) (Nat.le_add_right _ _)
  have h:=Pos.init (t:=t) (k:=k) (len:=n/8+1) hb ht Om (by rw[Nat.add_sub_cancel,hx];exact rR);rw[Nat.add_sub_cancel,hx,MG,show 8*(n/8)+(n%8+1-1)=n by omega] at h;have hm:tailV xs k (n/8+1)%2^n=R:=by
    simp only[tailV];rw[hx,hv,Nat.add_comm,Nat.add_mod_right,Nat.mod_eq_of_lt hR]
  grind
def bitsV:List Nat→Nat
  |[]=>0
  |b::bs=>b*2^bs.length+bitsV bs
def oA (bs:List Nat):Prop:=∀b ∈ bs,b<2
theorem nu:∀as bs:List Nat,bitsV (as++bs)=bitsV as*2^bs.length+bitsV bs
  |[],bs=>by simp[bitsV]
  |a::as,bs=>by
    simp only[List.cons_append,bitsV,nu as bs,List.length_append,Nat.add_mul,Nat.pow_add];grind
def BR.kv (xs:List Nat) (k:Nat) (s:BR):BR:=⟨s.off-4,s.val*2^32%18446744073709551616|||eS xs (k+(s.off-4)),s.rd-32⟩
def BR.jq (xs:List Nat) (k:Nat) (s:BR):BR:=if s.rd<32 then s else s.kv xs k
def BR.Bx (xs:List Nat) (k:Nat) (s:BR):BR:=⟨s.off-1,s.val*2^8%18446744073709551616|||xs.getD (k+(s.off-1)) 0,s.rd-8⟩
def BR.floads (xs:List Nat) (k:Nat):Nat→BR→BR
  |0,s=>s
  |n+1,s=>(BR.floads xs k n s).Bx xs k
def BR.eF (xs:List Nat) (k:Nat) (s:BR):BR:=if s.rd<32 then s else if 4<s.off then s.kv xs k else BR.floads xs k s.off s
def BR.nw (xs:List Nat) (k len:Nat):BR:=if 8≤len then ⟨len-8,my xs (k+(len-8)),0⟩ else BR.eF xs k (BR.eF xs k ⟨len,0,64⟩)
def BR.gx (xs:List Nat) (k len:Nat):BR:=⟨(BR.nw xs k len).off,(BR.nw xs k len).val,((BR.nw xs k len).rd+(8-(aq (xs.getD (k+(len-1)) 0)-1)))%256⟩
def BR.mC (s:BR) (n:Nat):Nat:=s.val*2^(s.rd&&&63)%18446744073709551616/2^((64-n)&&&63)%65536
def BR.fp (s:BR) (n:Nat):BR:=⟨s.off,s.val,(s.rd+n)%256⟩
structure ia (xs:List Nat) (k len:Nat) (s:BR) (n R:Nat):Prop where
  ok:s.OK len
  rd:s.rd≤64
  n:n=8*s.off+(64-s.rd)
  R:R=s.val%2^(64-s.rd)*2^(8*s.off)+tailV xs k s.off
section
variable {xs:List Nat} {k len n R:Nat} {s:BR}
theorem ia.lt (h:ia xs k len s n R) (hb:Bytes xs):R<2^n:=by
  have ht:=gK hb k s.off;have h1:=Nat.mod_lt s.val (Nat.pow_pos (n:=64-s.rd) (show 0<2 by omega));have h2:s.val%2^(64-s.rd)*2^(8*s.off)≤(2^(64-s.rd)-1)*2^(8*s.off):=Nat.mul_le_mul_right _ Om;rw[Nat.sub_mul,Nat.one_mul, ←Nat.pow_add] at h2;have h3:2^(8*s.off)≤2^(64-s.rd+8*s.off):=Nat.pow_le_pow_right Om Om;rw[h.R,h.n,Nat.add_comm (8*s.off)];omega
theorem Oh {v x e r:Nat} (hx:x<2^e) (he:e≤r) (hr:r≤64):(v*2^e%18446744073709551616|||x)%2^(64-(r-e))=v%2^(64-r)*2^e+x:=by
  have uC:(18446744073709551616:Nat)=2^(64-e)*2^e:=by rw[←Nat.pow_add,show 64-e+e=64 by omega]
  rw[uC,Nat.mul_mod_mul_right,tg hx,show 64-(r-e)=(64-r)+e by omega,Nat.pow_add];have hd:2^(64-r)∣2^(64-e):=Nat.pow_dvd_pow 2 Om;rw[Nat.add_mod,Nat.mul_mod_mul_right,Nat.mod_mod_of_dvd _ hd];have zi:x%(2^(64-r)*2^e)=x:=Nat.mod_eq_of_lt (Nat.lt_of_lt_of_le hx (Nat.le_mul_of_pos_left _ (Nat.pow_pos Om)));rw[zi];refine Nat.mod_eq_of_lt ?_;have h1:=Nat.mod_lt v (Nat.pow_pos (n:=64-r) (show 0<2 by omega));have h2:v%2^(64-r)*2^e≤(2^(64-r)-1)*2^e:=Nat.mul_le_mul_right _ Om;rw[Nat.sub_mul,Nat.one_mul] at h2;have h3:2^e≤2^(64-r)*2^e:=Nat.le_mul_of_pos_left _ (Nat.pow_pos Om);omega
theorem ia.bu (h:ia xs k len s n R) (hb:Bytes xs) (hr:8≤s.rd) (ho:0<s.off):ia xs k len (s.Bx xs k) n R:=by
  have hx:=hb.at_ (k+(s.off-1));have kL:=h.rd;have lG:=h.ok.off;refine⟨⟨by show s.off-1≤len;omega,cC (Nat.mod_lt _ Od) Om,by show s.rd-8<256;omega⟩,by show s.rd-8≤64;omega,by rw[h.n];show _=8*(s.off-1)+(64-(s.rd-8));omega,?_⟩;show R=(s.val*2^8%18446744073709551616|||xs.getD (k+(s.off-1)) 0)%2^(64-(s.rd-8))*2^(8*(s.off-1))+tailV xs k (s.off-1);rw[Oh (e:=8) Om hr kL,h.R,xE ho,Nat.add_mul,Nat.mul_assoc, ←Nat.pow_add,show 8+8*(s.off-1)=8*s.off by omega];omega
theorem BR.jZ:∀n,(BR.floads xs k n s).off=s.off-n
  |0=>rfl
  |n+1=>by simp[BR.floads,BR.Bx,BR.jZ n];omega
theorem BR.qu:∀n,(BR.floads xs k n s).rd=s.rd-8*n
  |0=>rfl
  |n+1=>by simp[BR.floads,BR.Bx,BR.qu n];omega
theorem ia.loads (h:ia xs k len s n R) (hb:Bytes xs):∀m,8*m≤s.rd→m≤s.off→ia xs k len (BR.floads xs k m s) n R
  |0,_,_=>h
  |m+1,h1,h2=>by
    have ih:=ia.loads h hb m Om Om;exact ih.bu hb (by rw[BR.qu];omega) (by rw[BR.jZ];omega)
theorem ia.eX (h:ia xs k len s n R) (hb:Bytes xs) (hr:32≤s.rd) (ho:4≤s.off):ia xs k len (s.kv xs k) n R:=by
  have hx:=dN hb (k+(s.off-4));have kL:=h.rd;have lG:=h.ok.off;refine⟨⟨by show s.off-4≤len;omega,cC (Nat.mod_lt _ Od) Om,by show s.rd-32<256;omega⟩,by show s.rd-32≤64;omega,by rw[h.n];show _=8*(s.off-4)+(64-(s.rd-32));omega,?_⟩;show R=(s.val*2^32%18446744073709551616|||eS xs (k+(s.off-4)))%2^(64-(s.rd-32))*2^(8*(s.off-4))+tailV xs k (s.off-4);have ht:tailV xs k s.off=tailV xs k (s.off-4)+eS xs (k+(s.off-4))*2^(8*(s.off-4)):=by
    have:=jY xs k (s.off-4) 4;grind [xC,tailV]
  rw[Oh (e:=32) Om hr kL,h.R,ht,Nat.add_mul,Nat.mul_assoc, ←Nat.pow_add,show 32+8*(s.off-4)=8*s.off by omega];omega
theorem ia.jq (h:ia xs k len s n R) (hb:Bytes xs) (ho:32≤s.rd→4≤s.off):ia xs k len (s.jq xs k) n R∧(s.jq xs k).rd≤32∧s.off≤(s.jq xs k).off+4∧(s.jq xs k).off≤s.off:=by
  unfold BR.jq;split
  · grind
  · exact⟨h.eX hb Om (ho Om),by have:=h.rd;simp[BR.kv];omega,by simp[BR.kv];omega,by simp[BR.kv]⟩
theorem ia.eF (h:ia xs k len s n R) (hb:Bytes xs) (h8:32≤s.rd→s.off<5→8*s.off≤s.rd):ia xs k len (BR.eF xs k s) n R∧((BR.eF xs k s).rd≤32∨(BR.eF xs k s).off=0)∧(BR.eF xs k s).off≤s.off:=by
  unfold BR.eF;split
  · grind
  · split
    · exact⟨h.eX hb Om Om,by have:=h.rd;simp[BR.kv];omega,by simp[BR.kv]⟩
    · exact⟨h.loads hb _ (h8 Om Om) (Nat.le_refl _),.inr (by rw[BR.jZ];omega),by rw[BR.jZ];omega⟩
theorem ia.skip {m:Nat} (h:ia xs k len s n R) (hb:Bytes xs) (hr:s.rd+m≤64):ia xs k len (s.fp m) (n-m) (R%2^(n-m)):=by
  have kL:(s.fp m).rd=s.rd+m:=by simp[BR.fp];omega
  refine⟨⟨h.ok.off,h.ok.val,by rw[kL];omega⟩,Om,by rw[h.n,kL];show _=8*s.off+_;omega,?_⟩;rw[kL];show R%2^(n-m)=s.val%2^(64-(s.rd+m))*2^(8*s.off)+tailV xs k s.off;have hn:n-m=(64-s.rd-m)+8*s.off:=by rw[h.n];omega
  have ht:=gK hb k s.off;rw[h.R,hn,Nat.pow_add];have e1:s.val%2^(64-s.rd)*2^(8*s.off)+tailV xs k s.off=2^(8*s.off)*(s.val%2^(64-s.rd))+tailV xs k s.off:=by rw[Nat.mul_comm]
  rw[e1,Nat.mul_comm (2^(64-s.rd-m)),Nat.mod_mul,Nat.mul_add_mod,Nat.mod_eq_of_lt ht,Nat.mul_add_div (Nat.pow_pos Om),Nat.div_eq_of_lt ht,Nat.add_zero];rw[Nat.mod_mod_of_dvd _ (Nat.pow_dvd_pow 2 Om),show 64-s.rd-m=64-(s.rd+m) by omega,Nat.mul_comm,Nat.add_comm]
theorem ia.bits {m:Nat} (h:ia xs k len s n R) (hb:Bytes xs) (hm:1≤m) (atc:m≤16) (hr:s.rd+m≤64):s.mC m=R/2^(n-m)∧s.mC m<2^m:=by
  have ht:=gK hb k s.off;have pos:∀m:Nat,0<2^m:=fun m=>Nat.pow_pos Om
  have e1:s.rd&&&63=s.rd:=by rw[show(63:Nat)=2^6-1 from rfl,Nat.and_two_pow_sub_one_eq_mod];exact Nat.mod_eq_of_lt Om
  have e2:(64-m)&&&63=64-m:=by rw[show(63:Nat)=2^6-1 from rfl,Nat.and_two_pow_sub_one_eq_mod];exact Nat.mod_eq_of_lt Om
  have uC:(18446744073709551616:Nat)=2^(64-s.rd)*2^s.rd:=by rw[←Nat.pow_add,show 64-s.rd+s.rd=64 by omega]
  have key:s.val*2^(s.rd&&&63)%18446744073709551616/2^((64-m)&&&63)=R/2^(n-m):=by
    rw[e1,e2,uC,Nat.mul_mod_mul_right,show 64-m=(64-m-s.rd)+s.rd by omega,Nat.pow_add,Nat.mul_div_mul_right _ _ (pos _)];rw[h.R,show n-m=8*s.off+(64-m-s.rd) by rw[h.n];omega,Nat.pow_add, ←Nat.div_div_eq_div_mul,Nat.add_comm,Nat.add_mul_div_right _ _ (pos _),Nat.div_eq_of_lt ht,Nat.zero_add]
  have eV:R/2^(n-m)<2^m:=by
    rw[Nat.div_lt_iff_lt_mul (pos _), ←Nat.pow_add,show m+(n-m)=n by rw[h.n];omega];exact h.lt hb
  have CY:(2:Nat)^m≤2^16:=Nat.pow_le_pow_right Om atc;grind [BR.mC]
theorem BR.vO (hl:len<8):8*(BR.eF xs k ⟨len,0,64⟩).off≤(BR.eF xs k ⟨len,0,64⟩).rd:=by
  grind [BR.eF,BR.kv,BR.jZ,BR.qu]
theorem ia.start (hb:Bytes xs) (hl:1≤len):ia xs k len (BR.nw xs k len) (8*len) (tailV xs k len)∧((BR.nw xs k len).rd≤32∨(BR.nw xs k len).off=0):=by
  unfold BR.nw;split
  · rename_i h8;refine⟨⟨⟨Oi,nr hb _,Oi⟩,Oi,Oz,?_⟩,.inl Oi⟩;show tailV xs k len=my xs (k+(len-8))%2^64*2^(8*(len-8))+tailV xs k (len-8);rw[Nat.mod_eq_of_lt (nr hb _),DJ hb];have:=jY xs k (len-8) 8;grind
  · rename_i h8;have h0:ia xs k len ⟨len,0,64⟩ (8*len) (tailV xs k len):=⟨⟨Nat.le_refl _,Oi,Oi⟩,Oi,Oi,Oi⟩;obtain⟨h1,WZ⟩:=h0.eF hb (fun _ _=>Oz);have hs:=BR.vO (xs:=xs) (k:=k) (show len<8 by omega);obtain⟨h2,h3,_⟩:=h1.eF hb (fun _ _=>hs);exact⟨h2,h3⟩
theorem ia.tk {n R:Nat} (hb:Bytes xs) (hl:len=n/8+1) (hR:R<2^n) (hv:tailV xs k len=2^n+R):
    ia xs k len (BR.gx xs k len) n R∧0<xs.getD (k+(len-1)) 0∧(BR.gx xs k len).rd≤40∨ia xs k len (BR.gx xs k len) n R∧0<xs.getD (k+(len-1)) 0∧(BR.gx xs k len).off=0:=by
  subst hl;obtain⟨hS,hr⟩:=ia.start (k:=k) (len:=n/8+1) hb Om;simp only[tailV] at hv;unfold BR.gx;rw[Nat.add_sub_cancel];have wE:=gK hb k (n/8);have hm:tailV xs k (n/8+1)%2^n=R:=by
    simp only[tailV];rw[hv,Nat.add_comm,Nat.add_mod_right,Nat.mod_eq_of_lt hR]
  generalize hx:xs.getD (k+n/8) 0=x at hv;have hp:0<2^(8*(n/8)):=Nat.pow_pos Om;have e:(2:Nat)^n=2^(n%8)*2^(8*(n/8)):=by rw[←Nat.pow_add];congr 1;omega
  have zi:x=2^(n%8)+R/2^(8*(n/8)):=by
    have h1:x=(tailV xs k (n/8)+x*2^(8*(n/8)))/2^(8*(n/8)):=by rw[Nat.add_mul_div_right _ _ hp,Nat.div_eq_of_lt wE,Nat.zero_add]
    rw[h1,hv,e,Nat.add_comm,Nat.add_mul_div_right _ _ hp,Nat.add_comm]
  have hr8:R/2^(8*(n/8))<2^(n%8):=by rw[Nat.div_lt_iff_lt_mul hp, ←e];exact hR
  have MG:aq x=n%8+1:=by rw[zi];exact Ag hr8
  have rR:0<x:=by rw[zi];exact Nat.lt_of_lt_of_le (Nat.pow_pos Om) (Nat.le_add_right _ _)
  rw[MG];have kL:(BR.nw xs k (n/8+1)).rd+(8-(n%8+1-1))≤64:=by
    rcases hr with hr|hr
    · omega
    · have:=hS.n;rw[hr] at this;omega
  have hk:=hS.skip hb kL;rw[show 8*(n/8+1)-(8-(n%8+1-1))=n by omega,hm] at hk;rcases hr with hr|hr
  · exact .inl ⟨hk,rR,by show _%256≤40;omega⟩
  · exact .inr ⟨hk,rR,hr⟩
end
def flatC:Nat→List Nat→List Nat
  |_,[]=>[]
  |s,n::cs=>List.replicate n s++flatC (s+1) cs
def fS (size:Nat):Nat:=size/2+size/8+3
def place (size:Nat):List Nat→Nat→List Nat→List Nat
  |[],_,cells=>cells
  |s::t,p,cells=>place size t ((p+fS size)%size) (cells.set p s)
abbrev Cell:=Nat × Nat × Nat
def DO (log s k:Nat):Cell:=(s,log-(aq k-1),k*2^(log-(aq k-1))-2^log)
def buildD (log:Nat):List Nat→List Nat→List Cell
  |[],_=>[]
  |s::t,nx=>DO log s (nx.getD s 0)::buildD log t (nx.set s (nx.getD s 0+1))
theorem rp (log:Nat):∀(t nx:List Nat),(buildD log t nx).length=t.length
  |[],_=>rfl
  |s::t,nx=>by simp[buildD,rp log t]
theorem u0:∀(cs:List Nat) (s:Nat),(flatC s cs).length=cs.sum
  |[],_=>rfl
  |n::cs,s=>by simp[flatC,u0 cs]
theorem o7:∀(cs:List Nat) (s x:Nat),(flatC s cs).count x=if s≤x then cs.getD (x-s) 0 else 0
  |[],s,x=>by simp[flatC]
  |n::cs,s,x=>by
    have hc:(List.replicate n s).count x=if s=x then n else 0:=by rw[List.count_replicate];by_cases e:s=x<;>simp[e]
    rw[flatC,List.count_append,hc,o7 cs (s+1) x];grind
def ab8 (log:Nat) (cs:List Nat):List Nat:=place (2^log) (flatC 0 cs) 0 (List.replicate (2^log) 0)
structure W9 (log:Nat) (cs:List Nat):Prop where
  lg:log=5∨log=6
  sum:cs.sum=2^log
  len:cs.length≤256
  le:∀c ∈ cs,c<2^log
theorem rS (log:Nat):∀(t nx:List Nat) (u:Nat),u<t.length→(∀s ∈ t,s<nx.length)→(buildD log t nx).getD u (0,0,0)=DO log (t.getD u 0) (nx.getD (t.getD u 0) 0+(t.take u).count (t.getD u 0))
  |[],nx,u,h,_=>by simp at h
  |s::t,nx,0,h,hs=>by simp[buildD]
  |s::t,nx,u+1,h,hs=>by
    have hu:u<t.length:=by simpa using h
    simp only[buildD,List.getD_cons_succ,List.take_succ_cons];rw[rS log t _ u hu (fun x hx=>by simp;exact hs x (List.mem_cons_of_mem _ hx))];grind
def ab9 (log:Nat) (cs:List Nat):List Cell:=buildD log (ab8 log cs) cs
theorem Ol {log k n:Nat} (h1:1≤k) (h:k+1≤2*n) (hn:2*n<2^log):1≤log-(aq k-1):=by
  have:=cS (n:=k) (k:=log) Om;grind
def fN (T:List Cell):List Nat→Nat
  |a::b::c::r=>(T.getD a (0,0,0)).2.1+fN T (b::c::r)
  |_=>0
def fR (T:List Cell):List Nat→Nat
  |a::b::c::r=>(c-(T.getD a (0,0,0)).2.2)*2^fN T (b::c::r)+fR T (b::c::r)
  |_=>0
structure lk (log:Nat) (T:List Cell) (text at_:List Nat):Prop where
  len:at_.length=text.length
  two:2≤text.length
  lt:∀a ∈ at_,a<2^log
  sym:∀i,i<text.length→(T.getD (at_.getD i 0) (0,0,0)).1=text.getD i 0
  step:∀i,i+2<text.length→(T.getD (at_.getD i 0) (0,0,0)).2.2≤at_.getD (i+2) 0∧at_.getD (i+2) 0<(T.getD (at_.getD i 0) (0,0,0)).2.2+2^(T.getD (at_.getD i 0) (0,0,0)).2.1
theorem tm {T:List Cell} {at_:List Nat} {i:Nat} (h:i+2<at_.length):fN T (at_.drop i)=(T.getD (at_.getD i 0) (0,0,0)).2.1+fN T (at_.drop (i+1))∧
    fR T (at_.drop i)=(at_.getD (i+2) 0-(T.getD (at_.getD i 0) (0,0,0)).2.2)*2^fN T (at_.drop (i+1))+fR T (at_.drop (i+1)):=by
  rw[List.drop_eq_getElem_cons (show i<at_.length by omega),List.drop_eq_getElem_cons (show i+1<at_.length by omega),List.drop_eq_getElem_cons (show i+1+1<at_.length by omega)];grind [fN,fR]
theorem rT {T:List Cell} {at_:List Nat} {i:Nat} (h:at_.length≤i+2):fN T (at_.drop i)=0∧fR T (at_.drop i)=0:=by
  have:(at_.drop i).length≤2:=by simp;omega
  match hl:at_.drop i,this with
  |[],_=>exact⟨rfl,rfl⟩
  |[a],_=>exact⟨rfl,rfl⟩
  |[a,b],_=>exact⟨rfl,rfl⟩
  |a::b::c::r,h'=>simp at h'
theorem lk.lt_ {log:Nat} {T:List Cell} {text at_:List Nat} (h:lk log T text at_):∀d i,at_.length-i=d→fR T (at_.drop i)<2^fN T (at_.drop i)
  |0,i,hd=>by have:=rT (T:=T) (at_:=at_) (i:=i) Om;rw[this.1,this.2];decide
  |d+1,i,hd=>by
    rcases Nat.lt_or_ge (i+2) at_.length with hi|hi
    · obtain⟨e1,e2⟩:=tm (T:=T) hi;have ih:=lk.lt_ h d (i+1) Om;have hs:=h.step i (by rw[←h.len];exact hi);rw[e1,e2,Nat.pow_add];have:(at_.getD (i+2) 0-(T.getD (at_.getD i 0) (0,0,0)).2.2)*2^fN T (at_.drop (i+1))≤(2^(T.getD (at_.getD i 0) (0,0,0)).2.1-1)*2^fN T (at_.drop (i+1)):=Nat.mul_le_mul_right _ Om;rw[Nat.sub_mul (2^_) 1,Nat.one_mul] at this;have h2:2^fN T (at_.drop (i+1))≤2^(T.getD (at_.getD i 0) (0,0,0)).2.1*2^fN T (at_.drop (i+1)):=Nat.le_mul_of_pos_left _ (Nat.pow_pos Om);omega
    · grind [rT]
structure kN (xs:List Nat) (k len:Nat) (T:List Cell) (at_:List Nat) (i:Nat) (s:BR):Prop where
  pos:ia xs k len s (fN T (at_.drop i)) (fR T (at_.drop i))
theorem kN.bits {xs:List Nat} {k len log i:Nat} {T:List Cell} {text at_:List Nat} {s:BR} (h:kN xs k len T at_ i s) (hT:lk log T text at_) (hb:Bytes xs) (hi:i+2<text.length) (atd:(T.getD (at_.getD i 0) (0,0,0)).2.1≤16) (h1:1≤(T.getD (at_.getD i 0) (0,0,0)).2.1)
    (hr:s.rd+(T.getD (at_.getD i 0) (0,0,0)).2.1≤64∨s.off=0):
    s.rd+(T.getD (at_.getD i 0) (0,0,0)).2.1≤64∧(T.getD (at_.getD i 0) (0,0,0)).2.2+s.mC (T.getD (at_.getD i 0) (0,0,0)).2.1=at_.getD (i+2) 0∧kN xs k len T at_ (i+1) (s.fp (T.getD (at_.getD i 0) (0,0,0)).2.1):=by
  have hi':i+2<at_.length:=by rw[hT.len];exact hi
  obtain⟨e1,e2⟩:=tm (T:=T) hi';have eV:=lk.lt_ hT _ (i+1) rfl;have hs:=hT.step i hi;have hr':s.rd+(T.getD (at_.getD i 0) (0,0,0)).2.1≤64:=by
    rcases hr with h'|h'
    · exact h'
    · have:=h.pos.n;rw[e1,h'] at this;omega
  obtain⟨hv,_⟩:=h.pos.bits hb h1 atd hr';have hk:=h.pos.skip hb hr';generalize hn:(T.getD (at_.getD i 0) (0,0,0)).2.1=m at*;generalize (T.getD (at_.getD i 0) (0,0,0)).2.2=b at*;have pos:0<2^fN T (at_.drop (i+1)):=Nat.pow_pos Om;rw[e1,e2,Nat.add_sub_cancel_left] at hv;rw[Nat.add_comm (_*_),Nat.add_mul_div_right _ _ pos,Nat.div_eq_of_lt eV,Nat.zero_add] at hv;rw[e1,e2,Nat.add_sub_cancel_left,Nat.add_comm (_*_),Nat.add_mul_mod_self_right,Nat.mod_eq_of_lt eV] at hk;exact⟨hr',Om,⟨hk⟩⟩
def eA (v n:Nat):List Nat:=(List.range n).map fun i=>v/2^i%2
def vP (v n:Nat):List Nat:=(List.range n).map fun i=>v/2^(n-1-i)%2
theorem bD (v n:Nat):(eA v n).length=n:=by simp[eA]
theorem tq (v n:Nat):(vP v n).length=n:=by simp[vP]
theorem Lo (v n:Nat):eA v (n+1)=eA v n++[v/2^n%2]:=by simp[eA,List.range_succ]
theorem j4 (v n:Nat):oA (eA v n):=fun x hx=>by
  grind [eA]
theorem Gw (v n:Nat):vP v (n+1)=v/2^n%2::vP v n:=by
  simp only[vP,List.range_succ_eq_map,List.map_cons,List.map_map];have e:(List.range n).map ((fun i=>v/2^(n+1-1-i)%2) ∘ Nat.succ)=(List.range n).map fun i=>v/2^(n-1-i)%2:=List.map_congr_left fun i hi=>by
    grind
  rw[e];simp
theorem o8:∀(n v:Nat),bitsV (vP v n)=v%2^n
  |0,v=>by simp[vP,bitsV,Nat.mod_one]
  |n+1,v=>by
    rw[Gw,bitsV,tq,o8 n v,Nat.pow_succ,Nat.mod_mul,Nat.mul_comm];omega
def lowV:List Nat→Nat
  |[]=>0
  |b::bs=>b+2*lowV bs
theorem ga:∀as bs:List Nat,lowV (as++bs)=lowV as+2^as.length*lowV bs
  |[],bs=>by simp[lowV]
  |a::as,bs=>by
    simp only[List.cons_append,lowV,ga as bs,List.length_cons,Nat.pow_succ,Nat.mul_add];grind
theorem fU:∀(n v:Nat),lowV (eA v n)=v%2^n
  |0,v=>by simp[eA,lowV,Nat.mod_one]
  |n+1,v=>by
    rw[Lo,ga,fU n v,bD,Nat.pow_succ,Nat.mod_mul];simp[lowV]
theorem wT:∀{bs:List Nat},oA bs→lowV bs<2^bs.length
  |[],_=>by simp[lowV]
  |b::bs,h=>by
    have h1:=h b List.mem_cons_self;have h2:=wT (bs:=bs) fun x hx=>h x (List.mem_cons_of_mem _ hx)
    grind [lowV]
theorem Xa {a b:List Nat} {i:Nat} (h:a.take i=b.take i) (ha:i<a.length) (hb:i<b.length) (he:a.getD i 0=b.getD i 0):a.take (i+1)=b.take (i+1):=by
  rw[List.take_succ_eq_append_getElem ha,List.take_succ_eq_append_getElem hb,h];grind
theorem Xb {a b:List Nat} {i:Nat} (h:a.take i=b.take i) (ha:a.length≤i) (hb:b.length≤i):a=b:=by
  rwa [List.take_of_length_le ha,List.take_of_length_le hb] at h
def aca (xs:List Nat) (p:Nat):Nat:=xs.getD (p/8) 0/2^(p%8)%2
theorem Lp {xs:List Nat} (hb:Bytes xs) {p n:Nat} (h:p/8<n):aca xs p=tailV xs 0 n/2^p%2:=by
  unfold aca;rw[←xH hb h];have e:(2:Nat)^p=2^(8*(p/8))*2^(p%8):=by rw[←Nat.pow_add];congr 1;omega
  rw[e, ←Nat.div_div_eq_div_mul];generalize tailV xs 0 n/2^(8*(p/8))=q;have DK:(256:Nat)=2^(p%8)*2^(8-p%8):=by rw[←Nat.pow_add,show p%8+(8-p%8)=8 by omega]
  rw[DK,Nat.mod_mul_right_div_self];have:2∣2^(8-p%8):=by rw[show 8-p%8=(7-p%8)+1 by omega,Nat.pow_succ];exact Nat.dvd_mul_left _ _
  simp_all
def bitsN (xs:List Nat) (p:Nat):Nat→Nat
  |0=>0
  |n+1=>bitsN xs p n+aca xs (p+n)*2^n
theorem xI {xs:List Nat} (hb:Bytes xs) {p m:Nat}:∀n,(p+n+7)/8≤m→bitsN xs p n=tailV xs 0 m/2^p%2^n
  |0,_=>by simp[bitsN,Nat.mod_one]
  |n+1,h=>by
    simp only[bitsN];rw[xI (m:=m) hb n Om,Lp hb (n:=m) Om,Nat.pow_succ,Nat.mod_mul,Nat.pow_add,Nat.div_div_eq_div_mul,Nat.mul_comm (2^n)]
theorem qw (n i:Nat):(List.replicate n 0).getD i 0=0:=by
  grind
def nzc:List Nat→Nat
  |[]=>0
  |x::xs=>(if x=0 then 0 else 1)+nzc xs
def gy:List Nat→Nat
  |[]=>0
  |x::xs=>(if x=0 then 0 else 2^(11-x))+gy xs
theorem iT {xs:List Nat} {i:Nat} (h:i<xs.length):xs.take (i+1)=xs.take i++[xs.getD i 0]:=by
  simp_all
theorem ts:∀xs ys:List Nat,gy (xs++ys)=gy xs+gy ys
  |[],ys=>by simp[gy]
  |x::xs,ys=>by simp only[List.cons_append,gy,ts xs ys];omega
def dY (xs:List Nat) (b:Nat):Prop:=∀x ∈ xs,x≤b
theorem dY.at_ {xs:List Nat} {b:Nat} (h:dY xs b) (i:Nat):xs.getD i 0≤b:=by
  rw[List.getD_eq_getElem?_getD];rcases Nat.lt_or_ge i xs.length with hi|hi
  · simp only[hi,List.getElem?_eq_getElem,Option.getD_some];exact h _ (List.getElem_mem hi)
  · grind
def gL (xs:List Nat):Prop:=xs.length≤256∧dY xs 11∧gy xs=2048∧1<nzc xs
instance (xs:List Nat):Decidable (gL xs):=by unfold gL dY;exact inferInstance
theorem iy {xs:List Nat} {i:Nat} (h:i<xs.length):xs.getD i 0 ∈ xs:=by simp[List.getD_eq_getElem?_getD,h]
def nx (ls:List Nat):Nat→Nat
  |0=>0
  |d+1=>(nx ls d+ls.count (11-d))/2
def CZ (ls:List Nat) (m:Nat):Nat:=nx ls (11-m)
theorem xJ (ls:List Nat) {m:Nat} (h1:1≤m) (h:m≤11):CZ ls (m-1)=(CZ ls m+ls.count m)/2:=by
  unfold CZ;rw[show 11-(m-1)=(11-m)+1 by omega];grind [nx]
def jr (ls:List Nat) (s:Nat):Nat:=CZ ls (ls.getD s 0)+(ls.take s).count (ls.getD s 0)
def ib (ls:List Nat):Prop:=∀m,1≤m→m≤11→(CZ ls m+ls.count m)%2=0
abbrev Sli:=Option Addr × Nat × Nat
def ajT (T:List Sli):List Value:=T.map fun t=>.slice t.1 t.2.1 t.2.2
@[simp] theorem aad (T:List Sli):(ajT T).length=T.length:=by simp[ajT]
@[simp] theorem Xc (k:IntKind) (xs:List Int):(ints k xs).length=xs.length:=by simp[ints]
theorem Gx (k:IntKind) (n:Nat):aa k (List.replicate n 0)=ints k (List.replicate n 0):=by simp[aa,ints]
section
variable {P:Program} {K:Kx} {Q:Exit→Act→World→Prop} {ρ:aB} {l l' r:List au} {cd:Code} {e:Exit}
theorem G.perm (hp:l.Perm l') (h:G P K Q cd ρ l' r):G P K Q cd ρ l r:=fun a w ha=>h a w (ha.perm hp)
theorem GQ.perm (hp:l.Perm l') (h:GQ K Q e ρ l' r):GQ K Q e ρ l r:=fun a w ha=>h a w (ha.perm hp)
theorem G.ord {p rest:List au} (is:List Nat) (hp:pickS is l=some (p,rest)) (h:G P K Q cd ρ (p++rest) r):G P K Q cd ρ l r:=G.perm (iI _ _ _ _ hp) h
theorem GQ.ord {p rest:List au} (is:List Nat) (hp:pickS is l=some (p,rest)) (h:GQ K Q e ρ (p++rest) r):GQ K Q e ρ l r:=GQ.perm (iI _ _ _ _ hp) h
theorem GQ.Lq {p rest:List au} (k:Nat) (is:List Nat) (hp:pickS is l=some (p,rest)) (h:GQ K Q e ρ ((p++rest).take k++(p++rest).drop k) r):GQ K Q e ρ l r:=GQ.ord is hp (by rw[List.take_append_drop] at h;exact h)
end
def lH (ls:List Nat) (c:Nat):Nat × Nat:=(ls.getD c 0,jr ls c)
def codeBits (ls:List Nat):List Nat→List Nat
  |[]=>[]
  |c::t=>vP (jr ls c) (ls.getD c 0)++codeBits ls t
theorem kx (ls:List Nat):∀t:List Nat,(codeBits ls t).length=tN (lH ls) t
  |[]=>rfl
  |c::t=>by simp only[codeBits,List.length_append,tq,kx ls t,tN,lH]
theorem o9 (ls:List Nat):∀t:List Nat,(∀c ∈ t,jr ls c<2^ls.getD c 0)→bitsV (codeBits ls t)=tR (lH ls) t
  |[],_=>rfl
  |c::t,h=>by
    simp only[codeBits];rw[nu,o8,o9 ls t (fun x hx=>h x (List.mem_cons_of_mem _ hx)),kx,Nat.mod_eq_of_lt (h c List.mem_cons_self)]
    rfl
def vQ (xs:List Nat) (q j:Nat):List Nat:=(xs.drop (j*q)).take (min ((j+1)*q) xs.length-j*q)
structure Gy (ls t ys:List Nat):Prop where
  even:ib ls
  all:∀c ∈ t,c<ls.length∧1≤ls.getD c 0∧ls.getD c 0≤11
  bytes:Bytes ys
  len:ys.length=tN (lH ls) t/8+1∧ys.length≤65535
  num:tailV ys 0 (tN (lH ls) t/8+1)=2^tN (lH ls) t+bitsV (codeBits ls t)
def mD (Y:List (List Nat)):List Nat:=Y.flatMap fun y=>[y.length%256,y.length/2^8]
theorem Gz {Y:List (List Nat)} {y:List Nat} {n:Nat} (h:Y.length<3) (hn:y.length=n):mD ((Y++[y]).take 3)=mD (Y.take 3)++[n%256,n/2^8]:=by
  subst hn;rw[List.take_of_length_le (show(Y++[y]).length≤3 by simp;omega),List.take_of_length_le (show Y.length≤3 by omega)];simp[mD]
def im (dk v:Nat):List Nat:=if v<2^aq dk-1-dk then eA v (aq dk-1) else if v<2^(aq dk-1) then eA v (aq dk) else eA (v+(2^aq dk-1-dk)) (aq dk)
def zerosB:Nat→List Nat
  |0=>eA 0 2
  |1=>eA 1 2
  |2=>eA 2 2
  |m+3=>eA 3 2++zerosB m
theorem DP {m:Nat} (h:3≤m):zerosB m=eA 3 2++zerosB (m-3):=by
  obtain⟨k,rfl⟩:∃k,m=k+3:=⟨m-3,Om⟩
  rfl
theorem GA {m:Nat} (h:m<3):zerosB m=eA m 2:=by
  match m,h with
  |0,_=>rfl
  |1,_=>rfl
  |2,_=>rfl
inductive Descr:Nat→List Nat→List Nat→Prop
  |done (cs:List Nat):Descr 0 cs []
  |pos (left n:Nat) (cs bits:List Nat):0<n→n≤left→Descr (left-n) cs bits→Descr left (n::cs) (im (left+1) (n+1)++bits)
  |zer (left z c:Nat) (cs bits:List Nat):0<left→0<c→Descr left (c::cs) bits→Descr left (0::(List.replicate z 0++c::cs)) (im (left+1) 1++(zerosB z++bits))
theorem qx {xs:List Nat} {i:Nat} (h:i<xs.length):xs.drop i=xs.getD i 0::xs.drop (i+1):=by rw[List.drop_eq_getElem_cons h];simp[h]
theorem pd:∀(xs:List Nat) (i:Nat),(xs.take i).sum≤xs.sum
  |[],i=>by simp
  |x::xs,0=>by simp
  |x::xs,i+1=>by
    simp_all [pd]
end Go.Proofs.YtekcchgffhphbaaGreatDoor
