/- The walk's own engine. -/
import Derived.Still
import Derived.KernelRfl
import Derived.OrdersHeld
import Derived.Tactics
import Derived.Below
import Derived.IntWalk
import Derived.ArgAppend
import Derived.Laws.OwnMore
set_option linter.unusedVariables false
set_option linter.unusedSimpArgs false
set_option linter.unnecessarySimpa false
namespace Go.Proofs.YtekcchgffhphbaaGreatDoor
theorem Om {p:Prop} (h:p:=by omega):p:=h
theorem Oa {p:Prop} (h:p:=by assumption):p:=h
theorem Od {p:Prop} (h:p:=by decide):p:=h
theorem Oy {p:Prop} (h:p:=by first|omega|(simp;omega)|simp):p:=h
theorem Oz {p:Prop} (h:p:=by simp;omega):p:=h
theorem Ou {p:Prop} (h:p:=by first|omega|(simp;omega)):p:=h
theorem Ow {p:Prop} (h:p:=by first|rfl|(simp;omega)|simp_all):p:=h
theorem Oi {p:Prop} (h:p:=by simp):p:=h
theorem Oj {p:Prop} (h:p:=by first|omega|(rw[List.length_set];omega)|(simp;omega)|simp):p:=h
theorem Ok {p:Prop} (h:p:=by first|omega|(rw[List.length_set];omega)|(simp;omega)):p:=h
theorem Ox {p:Prop} (h:p:=by first|rfl|assumption|(simp;omega)|simp_all):p:=h
theorem Or {p:Prop} (h:p:=by first|omega|decide):p:=h
theorem Kr {p:Prop} (h:p:=by kernel_rfl):p:=h
theorem Oq {a b c d:Prop} (h1:a:=by first|omega|simp) (h2:b:=by first|omega|(simp;omega)) (h3:c:=by first|omega|(simp;omega)) (h4:d:=by first|rfl|omega|(simp;omega)|simp):a∧b∧c∧d:=⟨h1,h2,h3,h4⟩
structure au where
  b:Nat
  o:Nat
  cs:List Value
  sh:Option (TypeId × Nat):=none
def au.has (s:au) (b j:Nat):Prop:=s.b=b∧s.o≤j∧j<s.o+s.cs.length
def au.oh (s:au) (w:World):Prop:=
  (∀j v,s.cs[j]? =some v→w.cell? ⟨s.b,s.o+j,none⟩=some v)∧
  (∀j,j<s.cs.length→w.frozen? ⟨s.b,s.o+j,none⟩=false)∧
  (∀x,s.sh=some x→w.shape? s.b=some x)
def au.apart (s t:au):Prop:=∀b j:Nat,s.has b j→¬t.has b j
theorem au.apart.symm {s t:au} (h:s.apart t):t.apart s:=fun b j h1 h2=>h b j h2 h1
structure St (l r:List au) (w:World):Prop where
  hl:∀s ∈ l,s.oh w
  hr:∀s ∈ r,s.oh w
  pw:l.Pairwise au.apart
  lr:∀s ∈ l,∀t ∈ r,s.apart t
structure fw (l:List au) (w w':World):Prop where
  os:w'.os=w.os
  tape:w'.tape=w.tape
  output:w'.output=w.output
  size:w.heap.size≤w'.heap.size
  cells:∀(b:Nat) (c:Array Value) (T:TypeId) (f:Nat × Nat),w.heap[b]? =some (.cells c T f)→∃c',w'.heap[b]? =some (.cells c' T f)∧c'.size=c.size∧∀j:Nat,(∀s ∈ l,¬s.has b j)→c'[j]? =c[j]?
  other:∀(b:Nat) (o:Obj),w.heap[b]? =some o→(∀c T f,o≠Obj.cells c T f)→w'.heap[b]? =some o
theorem fw.refl (l:List au) (w:World):fw l w w:=
  ⟨rfl,rfl,rfl,Nat.le_refl _,fun _ c _ _ h=>⟨c,h,rfl,fun _ _=>rfl⟩,fun _ _ h _=>h⟩
theorem fw.trans' {l l2:List au} {w w1 w2:World} (h:fw l w w1) (k:fw l2 w1 w2)
    (hl:∀s ∈ l2,∀b j,s.has b j→(∃t ∈ l,t.has b j)∨w.heap.size≤b):fw l w w2:=by
  refine⟨k.os.trans h.os,k.tape.trans h.tape,k.output.trans h.output,Nat.le_trans h.size k.size,?_,?_⟩
  · intro b c T f hb;obtain⟨c1,h1,A0,kS⟩:=h.cells b c T f hb;obtain⟨c2,h2,FL,FM⟩:=k.cells b c1 T f h1;grind
  · intro b o hb ho;exact k.other b o (h.other b o hb ho) ho
theorem fw.alloc (l:List au) (w:World) (o:Obj):fw l w (w.alloc o):=by
  have key:∀b x,w.heap[b]? =some x→(w.alloc o).heap[b]? =some x:=fun b x hb=>by
    have eU:b<w.heap.size:=(Array.getElem?_eq_some_iff.1 hb).1;show(w.heap.push o)[b]? =_;grind
  exact⟨rfl,rfl,rfl,Oi,fun b c T f h=>⟨c,key b _ h,rfl,fun _ _=>rfl⟩,fun b x h _=>key b x h⟩
theorem fw.setCell {l:List au} (w:World) {b j:Nat} (v:Value) (hs:∃s ∈ l,s.has b j):fw l w (w.setCell ⟨b,j,none⟩ v):=by
  refine⟨rfl,rfl,rfl,Oi,?_,?_⟩
  · intro b' c T f hb;by_cases UU:b=b'
    · subst UU;refine⟨c.setIfInBounds j v,by simp[World.setCell,Array.getElem?_modify,hb],Oi,fun i hi=>?_⟩;grind
    · exact⟨c,by simp[World.setCell,Array.getElem?_modify,hb,UU],rfl,fun _ _=>rfl⟩
  · intro b' o hb ho;by_cases UU:b=b'
    · subst UU;cases o<;>first|exact(ho _ _ _ rfl).elim|simp[World.setCell,Array.getElem?_modify,hb]
    · simp[World.setCell,Array.getElem?_modify,hb,UU]
theorem fw.cell {l:List au} {w w':World} (h:fw l w w') {b j:Nat} {v:Value} (hj:∀s ∈ l,¬s.has b j) (hc:w.cell? ⟨b,j,none⟩=some v):w'.cell? ⟨b,j,none⟩=some v:=by
  unfold World.cell? at hc ⊢;cases hb:w.heap[b]? with
  |none=>simp[hb] at hc
  |some o=>
    cases o with
    |cells c T f=>
      obtain⟨c',h',_,hcc⟩:=h.cells b c T f hb;grind
    |_=>simp[hb] at hc
theorem World.VH {w:World} {b j:Nat} {v:Value} (h:w.cell? ⟨b,j,none⟩=some v):b<w.heap.size:=World.block_lt_of_cell? w _ h
theorem fw.frozen {l:List au} {w w':World} (h:fw l w w') {b j:Nat} (hb:b<w.heap.size):w'.frozen? ⟨b,j,none⟩=w.frozen? ⟨b,j,none⟩:=by
  have Ku:w.heap[b]? =some w.heap[b]:=Array.getElem?_eq_getElem hb;unfold World.frozen?;cases ho:w.heap[b] with
  |cells c T f=>
    rw[ho] at Ku;obtain⟨c',h',_,_⟩:=h.cells b c T f Ku;simp[Ku,h']
  |_=>rw[ho] at Ku;have:=h.other b _ Ku Oi;simp[Ku,this]
theorem fw.shape {l:List au} {w w':World} (h:fw l w w') {b:Nat} {x:TypeId × Nat} (hx:w.shape? b=some x):w'.shape? b=some x:=by
  unfold World.shape? at hx ⊢;cases hb:w.heap[b]? with
  |none=>simp[hb] at hx
  |some o=>
    cases o with
    |cells c T f=>
      obtain⟨c',h',hs,_⟩:=h.cells b c T f hb;grind
    |_=>simp[hb] at hx
theorem au.oh.lt {w:World} {s:au} (hs:s.oh w) {b j:Nat} (h:s.has b j):b<w.heap.size:=by
  obtain⟨rfl,h1,h2⟩:=h;exact World.VH (hs.1 (j-s.o) (s.cs[j-s.o]' Om) Oi)
theorem au.oh.iw {l:List au} {w w':World} {s:au} (hs:s.oh w) (h:fw l w w') (ha:∀t ∈ l,t.apart s):s.oh w':=by
  refine⟨fun j v hj=>?_,fun j hj=>?_,fun x hx=>h.shape (hs.2.2 x hx)⟩
  · have hlen:j<s.cs.length:=by
      grind
    exact h.cell (fun t ht hh=>ha t ht s.b (s.o+j) hh ⟨rfl,Om,Om⟩) (hs.1 j v hj)
  · have eU:s.b<w.heap.size:=hs.lt ⟨rfl,Nat.le_add_right s.o j,Om⟩;exact(h.frozen eU).trans (hs.2.1 j hj)
section
variable {P:Program} {ops:Array Oper} {Q:Exit→Act→World→Prop} {md:Region.Mode} {E:Nat→Bool}
def CV (P:Program) (md:Region.Mode) (ops:Array Oper) (E:Nat→Bool) (Q:Exit→Act→World→Prop):Nat→Array Bool→Act→World→Prop
  |0,listed,a,w=>Region.ready md ops listed=[]∧Q .normal a w
  |fuel+1,listed,a,w=>
    (Region.ready md ops listed=[]→Q .normal a w)∧
    ∀i ∈ Region.ready md ops listed,
      if E i then wpOp P ops Q i (CV P md ops E Q fuel (listed.setIfInBounds i true)) a w
      else stOp P ops w i (fun a'=>CV P md ops E Q fuel (listed.setIfInBounds i true) a' w) a
theorem rr:∀(fuel:Nat) (listed:Array Bool) (a:Act) (w:World),CV P md ops E Q fuel listed a w→wpAny P md ops Q fuel listed a w
  |0,_,_,_,h=>h
  |fuel+1,listed,a,w,h=>⟨h.1,fun i hi=>by
      have h2:=h.2 i hi;by_cases hE:E i=true
      · rw[if_pos hE] at h2;exact wpOp_mono (fun a' w' h'=>rr fuel _ a' w' h') h2
      · rw[if_neg hE] at h2;exact wpOp_of_stOp (fun a' h'=>rr fuel _ a' w h') h2⟩
structure NB (md:Region.Mode) (ops:Array Oper) (listed:Array Bool) (i:Nat) (oi:Oper) (bh:Nat→Prop):Prop where
  un:∀j,j<ops.size→bh j→listed.getD j true=false
  chain:∀j oj,ops[j]? =some oj→bh j→j≠i→∃e ∈ oj.after,Region.binds md e=true∧bh e.on∧e.on<ops.size
  apart:∀j oj,ops[j]? =some oj→listed.getD j true=false→¬bh j→oi.apart ops oj=true
theorem v8 {listed:Array Bool} {k:Nat} (h1:listed.getD k false=true) (h2:listed.getD k true=false):False:=by
  grind
theorem NB.notReady {listed:Array Bool} {i:Nat} {oi:Oper} {bh:Nat→Prop} (h:NB md ops listed i oi bh) {j:Nat} (hj:j ∈ Region.ready md ops listed) (v9:j≠i):¬bh j:=by
  intro hb;obtain⟨y4,oj,A',sN⟩:=mem_ready.1 hj;obtain⟨e,he,hbi,hbe,eU⟩:=h.chain j oj A' hb v9;exact v8 (sN e he hbi) (h.un e.on eU hbe)
theorem NB.put {listed:Array Bool} {i:Nat} {oi:Oper} {bh:Nat→Prop} (h:NB md ops listed i oi bh) {j:Nat} (hb:¬bh j) (y4:listed.getD j true=false):NB md ops (listed.setIfInBounds j true) i oi bh:=by
  refine⟨fun k hk hbk=>?_,h.chain,fun k ok hk hl hbk=>?_⟩
  · by_cases hjk:j=k
    · grind
    · rw[getD_set_ne true hjk];exact h.un k hk hbk
  · by_cases hjk:j=k
    · simp_all
    · rw[getD_set_ne true hjk] at hl;exact h.apart k ok hk hl hbk
theorem CW {i:Nat} {oi:Oper} {v:Value} {bh:Nat→Prop} (hi:ops[i]? =some oi) (oG:∀(j:Nat) (o:Oper) cs b,ops[j]? =some o→o.op≠ .select cs b) (hEi:E i=false) (aCn:bh i):
    ∀(fuel:Nat) (listed:Array Bool) (a:Act) (w:World),NB md ops listed i oi bh→(∀j,j<ops.size→listed.getD j true=false→E j=true→bh j)→
      i ∈ Region.ready md ops listed→YieldsAt P ops w oi v a→
      CV P md ops E Q fuel (listed.setIfInBounds i true) (a.put oi.dst v) w→CV P md ops E Q (fuel+1) listed a w:=by
  intro fuel;induction fuel with
  |zero=>
    intro listed a w qN hE _ hy H;rename_i hr;refine⟨fun h=>(by rw[h] at hr;cases hr),fun j hj=>?_⟩;by_cases Ba:j=i
    · subst Ba;rw[if_neg (by rw[hEi];simp)];exact hy.stOp hi H
    · have:=ready_mono hj Ba;rw[H.1] at this;cases this
  |succ fuel ih=>
    intro listed a w qN ast hr hy H;refine⟨fun h=>(by rw[h] at hr;cases hr),fun j hj=>?_⟩;by_cases Ba:j=i
    · subst Ba;rw[if_neg (by rw[hEi];simp)];exact hy.stOp hi H
    · have h1:=H.2 j (ready_mono hj Ba);obtain⟨FN,oj,A',sN⟩:=mem_ready.1 hj;have asu:=(Array.getElem?_eq_some_iff.1 A').1;have hbj:=qN.notReady hj Ba;have hEj:¬E j=true:=fun hE=>hbj (ast j asu FN hE)
      rw[if_neg hEj] at h1 ⊢;have h2:=stOp_put A' (qN.apart j oj A' FN hbj) (fun cs b=>oG i oi cs b hi) (fun cs b=>oG j oj cs b A') hy h1;refine stOp_mono (fun a' h3=>ih (listed.setIfInBounds j true) a' w (qN.put hbj FN) (fun k hk hl hE=>?_) (ready_mono hr (Ne.symm Ba)) h3.1 ?_) h2
      · by_cases hjk:j=k
        · grind
        · simp_all
      · rw[Array.setIfInBounds_comm _ _ Ba];exact h3.2
theorem CX {i:Nat} {oi:Oper} {v:Value} {bh:Nat→Prop} (hi:ops[i]? =some oi) (oG:∀(j:Nat) (o:Oper) cs b,ops[j]? =some o→o.op≠ .select cs b) (hEi:E i=false)
    (hQ:∀c a w,Q (.panic c) (a.put oi.dst v) w→Q (.panic c) a w):
    ∀(fuel:Nat) (listed:Array Bool) (a:Act) (w:World),NB md ops listed i oi bh→
      i ∈ Region.ready md ops listed→Yields P ops oi v a→
      CV P md ops E Q fuel (listed.setIfInBounds i true) (a.put oi.dst v) w→CV P md ops E Q (fuel+1) listed a w:=by
  have atY:∀{a:Act} {w:World},Yields P ops oi v a→YieldsAt P ops w oi v a:=fun h=>h.imp (fun ⟨h1,h2⟩=>⟨h1,.inl (h2 _)⟩) id
  intro fuel;induction fuel with
  |zero=>
    intro listed a w _ hr hy H;refine⟨fun h=>(by rw[h] at hr;cases hr),fun j hj=>?_⟩;by_cases Ba:j=i
    · subst Ba;rw[if_neg (by rw[hEi];simp)];exact(atY hy).stOp hi H
    · have:=ready_mono hj Ba;rw[H.1] at this;cases this
  |succ fuel ih=>
    intro listed a w qN hr hy H;refine⟨fun h=>(by rw[h] at hr;cases hr),fun j hj=>?_⟩;by_cases Ba:j=i
    · subst Ba;rw[if_neg (by rw[hEi];simp)];exact(atY hy).stOp hi H
    · have h1:=H.2 j (ready_mono hj Ba);obtain⟨FN,oj,A',sN⟩:=mem_ready.1 hj;have hbj:=qN.notReady hj Ba;have wa:=qN.apart j oj A' FN hbj;by_cases hE:E j=true
      · rw[if_pos hE] at h1 ⊢;have h2:=wpOp_put A' wa (fun cs b=>oG i oi cs b hi) (fun cs b=>oG j oj cs b A') hQ hy h1;refine wpOp_mono (fun a' w' h3=>ih (listed.setIfInBounds j true) a' w' (qN.put hbj FN) (ready_mono hr (Ne.symm Ba)) h3.1 ?_) h2;rw[Array.setIfInBounds_comm _ _ Ba];exact h3.2
      · rw[if_neg hE] at h1 ⊢;have h2:=stOp_put A' wa (fun cs b=>oG i oi cs b hi) (fun cs b=>oG j oj cs b A') (atY hy) h1;obtain⟨hp1,hp2,CY⟩:=Oper.apart_spec wa;obtain⟨u,hu,h5⟩:=yieldsAt_of_stOp A' h2;refine hu.stOp A' (ih (listed.setIfInBounds j true) _ w (qN.put hbj FN) (ready_mono hr (Ne.symm Ba)) ?_ ?_)
        · exact hy.of_same (execOp_put oi (fun cs b=>oG i oi cs b hi) a oj.dst u CY) (wanted_put oi a oj.dst u CY)
        · rw[Array.setIfInBounds_comm _ _ Ba];exact h5.2
theorem Mx {i:Nat} {fuel:Nat} {listed:Array Bool} {a:Act} {w:World} (hi:i ∈ Region.ready md ops listed) (hr:∀j ∈ Region.ready md ops listed,j=i)
    (hE:E i=true) (h:wpOp P ops Q i (CV P md ops E Q fuel (listed.setIfInBounds i true)) a w):CV P md ops E Q (fuel+1) listed a w:=
  ⟨fun h0=>(by rw[h0] at hi;cases hi),fun j hj=>(by
    grind)⟩
theorem wW {listed:Array Bool} {a:Act} {w:World} (hr:Region.ready md ops listed=[]) (h:Q .normal a w):
    ∀fuel,CV P md ops E Q fuel listed a w
  |0=>⟨hr,h⟩
  |_+1=>⟨fun _=>h,by rw[hr];simp⟩
theorem vt {id:Nat} {a:Act} {w:World} (hm:P.follows .mixedOrders=true)
    (h:CV P .any ops E Q ops.size (Array.replicate ops.size false) a w.drew):(Code.region id ops true).wp P Q a w:=
  wp_region_any hm (rr _ _ _ _ h)
end
def nth:Nat→List Oper→Option Oper
  |_,[]=>none
  |0,o::_=>some o
  |n+1,_::L=>nth n L
theorem My:∀(i:Nat) (L:List Oper),nth i L=L[i]?
  |_,[]=>by simp[nth]
  |0,o::_=>by simp[nth]
  |n+1,_::L=>by simp[nth,My n L]
theorem iT {i:Nat} {L:List Oper} {o:Oper} (h:nth i L=some o):L.toArray[i]? =some o:=by rw[My] at h;simpa using h
def nthN:Nat→List Nat→Nat
  |_,[]=>0
  |0,o::_=>o
  |n+1,_::L=>nthN n L
def maskOf (acc:List Nat):List Edge→Nat
  |[]=>0
  |e::es=>if Region.binds .any e && Nat.blt e.on acc.length then Nat.lor (Nat.lor (Nat.pow 2 e.on) (nthN e.on acc)) (maskOf acc es) else maskOf acc es
def befs:List Nat→List Oper→List Nat
  |acc,[]=>acc
  |acc,o::os=>befs (acc++[maskOf acc o.after.toList]) os
def backB:Nat→List Oper→Bool
  |_,[]=>true
  |n,o::os=>(o.after.toList.all fun e=> !Region.binds .any e||Nat.blt e.on n) && backB (n+1) os
def apartB (ops:Array Oper) (b:List Nat):Nat→List Oper→Nat→Oper→Bool
  |_,[],_,_=>true
  |j,o::os,i,oi=>(Nat.testBit (nthN j b) i||Nat.testBit (nthN i b) j||j==i||oi.apart ops o) && apartB ops b (j+1) os i oi
def ie (ops:Array Oper) (b:List Nat) (L:List Oper):Nat→List Oper→Bool
  |_,[]=>true
  |i,o::os=>apartB ops b 0 L i o && ie ops b L (i+1) os
inductive Kd where
  |y|r|e
  deriving DecidableEq
def oI (m d:Nat):Bool:=Nat.beq (Nat.land m d) m
def allFrom (p:Nat→Bool):Nat→Nat→Bool
  |_,0=>true
  |j,n+1=>p j && allFrom p (j+1) n
theorem iU {p:Nat→Bool}:∀(n j:Nat),allFrom p j n=true→∀k,j≤k→k<j+n→p k=true
  |0,_,_,k,h1,h2=>by omega
  |n+1,j,h,k,h1,h2=>by
    simp only[allFrom,Bool.and_eq_true] at h;by_cases e:k=j
    · grind
    · exact iU n (j+1) h.2 k Om Om
def stepsB (n:Nat) (b:List Nat) (E:Nat):List (Nat × Kd)→Nat→Bool
  |[],d=>Nat.beq d (Nat.pow 2 n-1)
  |(i,k)::rest,d=>Nat.blt i n && !Nat.testBit d i && oI (nthN i b) d &&
      (match k with
       | .y=> !Nat.testBit E i
       | .r=> !Nat.testBit E i && allFrom (fun j=>Nat.testBit d j|| !Nat.testBit E j||Nat.testBit (nthN j b) i) 0 n
       | .e=>Nat.testBit E i && allFrom (fun j=>Nat.testBit d j||j==i||Nat.testBit (nthN j b) i) 0 n) && stepsB n b E rest (Nat.lor d (Nat.pow 2 i))
def Jb (L:List Oper) (E:Nat) (order:List (Nat × Kd)):Bool:=
  Region.noSelect L.toArray && Nat.ble order.length L.length && backB 0 L && ie L.toArray (befs [] L) L 0 L && stepsB L.length (befs [] L) E order 0
theorem Bb:∀(i:Nat) (L:List Nat),nthN i L=L.getD i 0
  |_,[]=>by simp[nthN]
  |0,o::_=>by simp[nthN]
  |n+1,_::L=>by simp[nthN,Bb n L]
theorem ru (acc:List Nat) (i:Nat):∀(es:List Edge),(maskOf acc es).testBit i=true→∃e ∈ es,Region.binds .any e=true∧e.on<acc.length∧(e.on=i∨(nthN e.on acc).testBit i=true)
  |[],h=>by simp[maskOf] at h
  |e::es,h=>by
    simp only[maskOf] at h;split at h
    · rename_i hc;rw[Bool.and_eq_true] at hc;have h':((2^e.on|||nthN e.on acc)|||maskOf acc es).testBit i=true:=h;rw[Nat.testBit_or,Nat.testBit_or,Bool.or_eq_true,Bool.or_eq_true] at h';rcases h' with (h1|h1)|h1
      · rw[Nat.testBit_two_pow] at h1;simp_all
      · simp_all
      · simp_all [ru]
    · simp_all [ru]
theorem rv (acc:List Nat):∀(es:List Edge) (e:Edge),e ∈ es→Region.binds .any e=true→e.on<acc.length→(maskOf acc es).testBit e.on=true
  |[],e,h,_,_=>by cases h
  |e0::es,e,h,hb,hl=>by
    simp only[maskOf];split
    · show((2^e0.on|||nthN e0.on acc)|||maskOf acc es).testBit e.on=true;rw[Nat.testBit_or,Nat.testBit_or];rcases List.mem_cons.1 h with h'|h'
      · grind
      · simp_all [rv]
    · rename_i hc;rcases List.mem_cons.1 h with h'|h'
      · simp_all
      · simp_all [rv]
theorem wX:∀(L:List Oper) (acc:List Nat),(befs acc L).length=acc.length+L.length
  |[],acc=>by simp[befs]
  |o::os,acc=>by simp only[befs,wX os,List.length_append,List.length_cons,List.length_nil];omega
theorem wY:∀(L:List Oper) (acc:List Nat) (k:Nat),k<acc.length→(befs acc L)[k]? =acc[k]?
  |[],acc,k,h=>by simp[befs]
  |o::os,acc,k,h=>by
    simp only[befs];rw[wY os _ k Oz,List.getElem?_append_left h]
theorem Bc:∀(L:List Oper) (acc:List Nat) (j:Nat) (o:Oper),L[j]? =some o→(befs acc L)[acc.length+j]? =some (maskOf ((befs acc L).take (acc.length+j)) o.after.toList)
  |[],acc,j,o,h=>by simp at h
  |o0::os,acc,0,o,h=>by
    simp at h;subst h;simp only[befs,Nat.add_zero];rw[wY os _ acc.length Oi];rw[List.getElem?_append_right (Nat.le_refl _)];simp only[Nat.sub_self,List.getElem?_cons_zero,Option.some.injEq];congr 1;apply List.ext_getElem?;grind [wY]
  |o0::os,acc,j+1,o,h=>by
    simp only[befs];have:=Bc os (acc++[maskOf acc o0.after.toList]) j o (by simpa using h);grind
theorem uG {L:List Oper} {j i:Nat} {o:Oper} (hj:L[j]? =some o) (h:(nthN j (befs [] L)).testBit i=true):∃e ∈ o.after,Region.binds .any e=true∧e.on<j∧(e.on=i∨(nthN e.on (befs [] L)).testBit i=true):=by
  have h1:=Bc L [] j o hj;grind [Bb,ru,wX]
theorem wZ {L:List Oper} {j:Nat} {o:Oper} (hj:L[j]? =some o) {e:Edge} (he:e ∈ o.after) (hb:Region.binds .any e=true) (hl:e.on<j):(nthN j (befs [] L)).testBit e.on=true:=by
  have h1:=Bc L [] j o hj;grind [Bb,rv,wX]
theorem ry:∀(L:List Oper) (n:Nat),backB n L=true→∀(j:Nat) (o:Oper),L[j]? =some o→∀e ∈ o.after,Region.binds .any e=true→e.on<n+j
  |[],n,_,j,o,hj,_,_,_=>by simp at hj
  |o0::os,n,h,0,o,hj,e,he,hb=>by
    simp at hj;subst hj;simp only[backB,Bool.and_eq_true,List.all_eq_true] at h;have:=h.1 e (by simpa using he);simp_all
  |o0::os,n,h,j+1,o,hj,e,he,hb=>by
    simp only[backB,Bool.and_eq_true] at h;have:=ry os (n+1) h.2 j o (by simpa using hj) e he hb;omega
theorem oJ {ops:Array Oper} {b:List Nat} {i:Nat} {oi:Oper}:∀(L:List Oper) (n:Nat),apartB ops b n L i oi=true→∀(j:Nat) (o:Oper),L[j]? =some o→(nthN (n+j) b).testBit i=true∨(nthN i b).testBit (n+j)=true∨n+j=i∨oi.apart ops o=true
  |[],n,_,j,o,hj=>by simp at hj
  |o0::os,n,h,0,o,hj=>by
    grind [apartB]
  |o0::os,n,h,j+1,o,hj=>by
    simp only[apartB,Bool.and_eq_true] at h;have:=oJ os (n+1) h.2 j o (by simpa using hj);grind
theorem lJ {ops:Array Oper} {b:List Nat} {L0:List Oper}:∀(L:List Oper) (n:Nat),ie ops b L0 n L=true→∀(i:Nat) (o:Oper),L[i]? =some o→apartB ops b 0 L0 (n+i) o=true
  |[],n,_,j,o,hj=>by simp at hj
  |o0::os,n,h,0,o,hj=>by
    grind [ie]
  |o0::os,n,h,i+1,o,hj=>by
    simp only[ie,Bool.and_eq_true] at h;have:=lJ os (n+1) h.2 i o (by simpa using hj);grind
theorem jM {m d:Nat} (h:oI m d=true) {i:Nat} (hi:m.testBit i=true):d.testBit i=true:=by
  have h':m&&&d=m:=Nat.eq_of_beq_eq_true h;grind
section
variable {P:Program} {Q:Exit→Act→World→Prop}
def wpP (P:Program) (ops:Array Oper) (Q:Exit→Act→World→Prop):List (Nat × Kd)→Act→World→Prop
  |[],a,w=>Q .normal a w
  |(i,k)::rest,a,w=>match k with
    | .y=>∃o v,ops[i]? =some o∧Yields P ops o v a∧wpP P ops Q rest (a.put o.dst v) w
    | .r=>∃o v,ops[i]? =some o∧YieldsAt P ops w o v a∧wpP P ops Q rest (a.put o.dst v) w
    | .e=>wpOp P ops Q i (wpP P ops Q rest) a w
structure UW (L:List Oper) (d:Nat) (listed:Array Bool):Prop where
  size:listed.size=L.length
  at_:∀j,j<L.length→listed.getD j true=d.testBit j
  closed:∀j,j<L.length→d.testBit j=true→oI (nthN j (befs [] L)) d=true
theorem UW.put {L:List Oper} {d i:Nat} {listed:Array Bool} (h:UW L d listed) (hi:i<L.length) (hs:oI (nthN i (befs [] L)) d=true):UW L (Nat.lor d (Nat.pow 2 i)) (listed.setIfInBounds i true):=by
  have hb:∀j,(Nat.lor d (Nat.pow 2 i)).testBit j=(d.testBit j||decide (i=j)):=fun j=>by
    show(d|||2^i).testBit j=_;grind
  have mono:∀m,oI m d=true→oI m (Nat.lor d (Nat.pow 2 i))=true:=fun m hm=>by
    have e:m&&&d=m:=Nat.eq_of_beq_eq_true hm;show Nat.beq (m&&&(d|||2^i)) m=true;have e2:m&&&(d|||2^i)=m:=by
      apply Nat.eq_of_testBit_eq;grind
    simp_all
  refine⟨by simp[h.size],fun j hj=>?_,fun j hj hd=>?_⟩
  · rw[hb];by_cases e:i=j
    · simp_all
    · rw[getD_set_ne true e,h.at_ j hj];simp[e]
  · rw[hb,Bool.or_eq_true] at hd;rcases hd with hd|hd
    · exact mono _ (h.closed j hj hd)
    · grind
theorem mU {L:List Oper} {E:Nat} (oG:Region.noSelect L.toArray=true) (nM:backB 0 L=true) (wa:ie L.toArray (befs [] L) L 0 L=true)
    (hQ:∀c a w (d:Nat) v,Q (.panic c) (a.put (some d) v) w→Q (.panic c) a w):
    ∀(order:List (Nat × Kd)) (d fuel:Nat) (listed:Array Bool) (a:Act) (w:World),stepsB L.length (befs [] L) E order d=true→UW L d listed→order.length≤fuel→wpP P L.toArray Q order a w→
      CV P .any L.toArray (fun j=>Nat.testBit E j) Q fuel listed a w
  |[],d,fuel,listed,a,w,hs,hl,_,h=>by
    refine wW ?_ h fuel;have hd:d=2^L.length-1:=Nat.eq_of_beq_eq_true hs;apply List.eq_nil_iff_forall_not_mem.2;intro j hj;obtain⟨y4,o,ho,_⟩:=mem_ready.1 hj;have eU:j<L.length:=by simpa using (Array.getElem?_eq_some_iff.1 ho).1
    rw[hl.at_ j eU,hd,Nat.testBit_two_pow_sub_one] at y4;grind
  |(i,k)::rest,d,fuel,listed,a,w,hs,hl,hf,h=>by
    obtain⟨fuel,rfl⟩:∃f,fuel=f+1:=⟨fuel-1,by simp at hf;omega⟩;simp only[stepsB,Bool.and_eq_true] at hs;obtain⟨⟨⟨⟨CZ,sM⟩,l7⟩,hk⟩,sO⟩:=hs;have eU:i<L.length:=Nat.le_of_ble_eq_true CZ;have uH:d.testBit i=false:=by simpa using sM
    have VI:L[i]? =some L[i]:=by simp[eU]
    have LX:L.toArray[i]? =some L[i]:=by simpa using VI
    have UX:=hl.put eU l7;have dir:∀e ∈ L[i].after,Region.binds .any e=true→listed.getD e.on false=true:=fun e he hb=>by
      have h1:=ry L 0 nM i _ VI e he hb;rw[Nat.zero_add] at h1;have h2:=jM l7 (wZ VI he hb h1);have h3:=hl.at_ e.on Om;rw[h2] at h3;have:e.on<listed.size:=by rw[hl.size];omega
      grind
    have mV:i ∈ Region.ready .any L.toArray listed:=mem_ready.2 ⟨by rw[hl.at_ i eU];exact uH,_,LX,dir⟩;have isz:L.toArray.size=L.length:=Oi;have nb:NB .any L.toArray listed i L[i] (fun j=>j=i∨(nthN j (befs [] L)).testBit i=true):=by
      refine⟨fun j hj hb=>?_,fun j oj hj hb v9=>?_,fun j oj hj y4 hb=>?_⟩
      · rw[isz] at hj;rw[hl.at_ j hj];rcases hb with rfl|hb
        · exact uH
        · cases hd:d.testBit j with
          |false=>rfl
          |true=>rw[jM (hl.closed j hj hd) hb] at uH;cases uH
      · grind [uG]
      · have Mz:L[j]? =some oj:=by simpa using hj
        have YK:j<L.length:=by
          grind
        have h1:=lJ L 0 wa i _ VI;rw[Nat.zero_add] at h1;have h2:=oJ L 0 h1 j oj Mz;simp only[Nat.zero_add] at h2;rcases h2 with h2|h2|h2|h2
        · grind
        · rw[hl.at_ j YK,jM l7 h2] at y4;cases y4
        · omega
        · exact h2
    cases k with
    |y=>
      obtain⟨o,v,ho,hy,hw⟩:=h;have:o=L[i]:=Option.some.inj (ho.symm.trans LX);subst this;have hE:Nat.testBit E i=false:=by simpa using hk
      refine CX LX (Region.noSelect_spec oG) hE ?_ fuel listed a w nb mV hy (mU oG nM wa hQ rest _ fuel _ _ w sO UX (by simp at hf;omega) hw);intro c a w hq;cases hd:L[i].dst with
      |none=>rw[hd] at hq;exact hq
      |some d'=>rw[hd] at hq;exact hQ c a w d' v hq
    |r=>
      obtain⟨o,v,ho,hy,hw⟩:=h;have:o=L[i]:=Option.some.inj (ho.symm.trans LX);subst this;rw[Bool.and_eq_true] at hk;have hE:Nat.testBit E i=false:=by simpa using hk.1
      refine CW LX (Region.noSelect_spec oG) hE (.inl rfl) fuel listed a w nb ?_ mV hy (mU oG nM wa hQ rest _ fuel _ _ w sO UX (by simp at hf;omega) hw);intro j hj y4 hEj;rw[isz] at hj;have h1:=iU _ _ hk.2 j Om Om;rw[hl.at_ j hj] at y4;grind
    |e=>
      rw[Bool.and_eq_true] at hk;refine Mx mV ?_ hk.1 (wpOp_mono (fun a' w' h'=>mU oG nM wa hQ rest _ fuel _ a' w' sO UX (by simp at hf;omega) h') h);intro j hj;refine Classical.byContradiction fun v9=>nb.notReady hj v9 ?_
      obtain⟨y4,oj,A',_⟩:=mem_ready.1 hj;have YK:j<L.length:=by simpa using (Array.getElem?_eq_some_iff.1 A').1
      have h1:=iU _ _ hk.2 j Om Om;rw[hl.at_ j YK] at y4;grind
theorem FO {L:List Oper} {id:Nat} (E:Nat) (order:List (Nat × Kd)) (hm:P.follows .mixedOrders=true) (hB:Jb L E order=true)
    (hQ:∀c a w (d:Nat) v,Q (.panic c) (a.put (some d) v) w→Q (.panic c) a w) {a:Act} {w:World} (h:wpP P L.toArray Q order a w.drew):(Code.region id L.toArray true).wp P Q a w:=by
  simp only[Jb,Bool.and_eq_true] at hB;obtain⟨⟨⟨⟨h1,h0⟩,h2⟩,h3⟩,h4⟩:=hB;have VJ:order.length≤L.length:=Nat.le_of_ble_eq_true h0;refine vt (E:=fun j=>Nat.testBit E j) hm ?_;have hl:UW L 0 (Array.replicate L.toArray.size false):=⟨Oi,fun j hj=>by simp[hj],fun j hj hd=>by simp at hd⟩;grind [mU]
end
abbrev aC:=List (Nat × Value)
def look (t:Nat):aC→Option Value
  |[]=>none
  |p::ρ=>bif Nat.beq p.1 t then some p.2 else look t ρ
def ev (ρ:aC):Operand→Option Value
  | .tmp t=>look t ρ
  | .const v=>some v
  | .global g=>some (.pointer (some ⟨g,0,none⟩))
  | .func f=>some (.func (.func f) #[] #[])
def sP (ρ:aC) (a:Act):Prop:=∀t v,look t ρ=some v→a.tmps[t]? =some v
theorem bf {ρ:aC} {a:Act} (h:sP ρ a) {x:Operand} {v:Value} (hx:ev ρ x=some v):a.eval x=v:=by
  cases x with
  |tmp t=>simp[Act.eval,h t v hx]
  |const u=>exact Option.some.inj hx
  |global g=>exact Option.some.inj hx
  |func f=>exact Option.some.inj hx
theorem sP.put {ρ:aC} {a:Act} (h:sP ρ a) {d:Nat} (hd:d<a.tmps.size) (v:Value):sP ((d,v)::ρ) (a.put (some d) v):=by
  intro t u ht;simp only[look,cond_eq_ite] at ht;simp only[Act.put];by_cases e:d=t
  · simp_all
  · have hb:Nat.beq d t=false:=by
      cases hb:Nat.beq d t with
      |false=>rfl
      |true=>exact absurd (Nat.eq_of_beq_eq_true hb) e
    simp[hb] at ht;rw[Array.getElem?_setIfInBounds_ne e];exact h t u ht
def Sub (ρ' ρ:aC):Prop:=match ρ' with
  |[]=>True
  |p::q=>look p.1 ρ=some p.2∧Sub q ρ
theorem Sub.ok {ρ ρ':aC} (h:Sub ρ' ρ) {a:Act} (ha:sP ρ a):sP ρ' a:=by
  induction ρ' with
  |nil=>intro t v ht;simp[look] at ht
  |cons p q ih=>
    intro t v ht;simp only[look,cond_eq_ite] at ht;by_cases e:Nat.beq p.1 t=true
    · have e':p.1=t:=Nat.eq_of_beq_eq_true e;rw[if_pos e] at ht;rw[←e', ←Option.some.inj ht];exact ha _ _ h.1
    · rw[if_neg e] at ht;exact ih h.2 t v ht
structure Kx where
  n:Nat
  l0:List au
  w0:World
def Own (K:Kx) (l:List au):Prop:=∀s ∈ l,∀b j:Nat,s.has b j→(∃t ∈ K.l0,t.has b j)∨K.w0.heap.size≤b
structure At (K:Kx) (ρ:aC) (l r:List au) (a:Act) (w:World):Prop where
  size:a.tmps.size=K.n
  defers:a.defers=[]
  fr:sP ρ a
  keeps:fw K.l0 K.w0 w
  st:St l r w
  own:Own K l
theorem St.drew {l r:List au} {w:World} (h:St l r w):St l r w.drew:=⟨h.hl,h.hr,h.pw,h.lr⟩
theorem At.drew {K:Kx} {ρ:aC} {l r:List au} {a:Act} {w:World} (h:At K ρ l r a w):At K ρ l r a w.drew:=
  ⟨h.size,h.defers,h.fr,⟨h.keeps.os,h.keeps.tape,h.keeps.output,h.keeps.size,h.keeps.cells,h.keeps.other⟩,h.st.drew,h.own⟩
theorem At.put {K:Kx} {ρ:aC} {l r:List au} {a:Act} {w:World} (h:At K ρ l r a w) {d:Nat} (hd:Nat.blt d K.n=true) (v:Value):At K ((d,v)::ρ) l r (a.put (some d) v) w:=
  ⟨by simp[Act.put,h.size],h.defers,h.fr.put (by rw[h.size];exact Nat.le_of_ble_eq_true hd) v,h.keeps,h.st,h.own⟩
theorem At.sub {K:Kx} {ρ ρ':aC} {l r:List au} {a:Act} {w:World} (h:At K ρ l r a w) (hs:Sub ρ' ρ):At K ρ' l r a w:=
  ⟨h.size,h.defers,hs.ok h.fr,h.keeps,h.st,h.own⟩
section
variable (P:Program) (K:Kx) (Q:Exit→Act→World→Prop)
def G (c:Code) (ρ:aC) (l r:List au):Prop:=∀a w,At K ρ l r a w→c.wp P Q a w
def GQ (e:Exit) (ρ:aC) (l r:List au):Prop:=∀a w,At K ρ l r a w→Q e a w
def GL (L rest:List Oper) (ρ:aC) (l r:List au):Prop:=∀a w,At K ρ l r a w→wpList P L.toArray Q rest a w
def GP (L:List Oper) (order:List (Nat × Kd)) (ρ:aC) (l r:List au):Prop:=∀a w,At K ρ l r a w→wpP P L.toArray Q order a w
end
section
variable {P:Program} {K:Kx} {Q:Exit→Act→World→Prop} {ρ:aC} {l r:List au}
theorem G.seq {x y:Code} (h:G P K (Exit.then (y.wp P Q) Q) x ρ l r):G P K Q (.seq x y) ρ l r:=fun a w ha=>wp_seq (h a w ha)
theorem G.block {id:Nat} {c:Code} (h:G P K (Exit.inBlock id Q) c ρ l r):G P K Q (.block id c) ρ l r:=fun a w ha=>wp_block (h a w ha)
theorem G.skip (h:GQ K Q .normal ρ l r):G P K Q .skip ρ l r:=fun a w ha=>wp_skip (h a w ha)
theorem G.ret (h:GQ K Q .ret ρ l r):G P K Q .ret ρ l r:=fun a w ha=>wp_ret (h a w ha)
theorem G.exit {id:Nat} (h:GQ K Q (.exit id) ρ l r):G P K Q (.exit id) ρ l r:=fun a w ha=>wp_exit (h a w ha)
theorem G.cond {c:Operand} {x y:Code} {t:Bool} (hc:ev ρ c=some (.bool t)) (ht:t=true→G P K Q x ρ l r) (hf:t=false→G P K Q y ρ l r):G P K Q (.cond c x y) ρ l r:=
  fun a w ha=>wp_cond_split (bf ha.fr hc) (fun h=>ht h a w ha) (fun h=>hf h a w ha)
theorem G.MA {c:Operand} {x y:Code} {p:Prop} [Decidable p] (hc:ev ρ c=some (.bool (decide p))) (ht:p→G P K Q x ρ l r) (hf:¬p→G P K Q y ρ l r):G P K Q (.cond c x y) ρ l r:=
  G.cond hc (fun h=>ht (of_decide_eq_true h)) (fun h=>hf (of_decide_eq_false h))
theorem G.aiY {c:Operand} {x y:Code} (hc:ev ρ c=some (.bool true)) (h:G P K Q x ρ l r):G P K Q (.cond c x y) ρ l r:=G.cond hc (fun _=>h) (fun e=>by cases e)
theorem G.gC {c:Operand} {x y:Code} (hc:ev ρ c=some (.bool false)) (h:G P K Q y ρ l r):G P K Q (.cond c x y) ρ l r:=G.cond hc (fun e=>by cases e) (fun _=>h)
theorem G.ix {c:Operand} {x y:Code} {p:Prop} [Decidable p] (hc:ev ρ c=some (.bool (decide p))) (hp:p) (h:G P K Q x ρ l r):G P K Q (.cond c x y) ρ l r:=G.MA hc (fun _=>h) (fun e=>(e hp).elim)
theorem G.eK {c:Operand} {x y:Code} {p:Prop} [Decidable p] (hc:ev ρ c=some (.bool (decide p))) (hp:¬p) (h:G P K Q y ρ l r):G P K Q (.cond c x y) ρ l r:=G.MA hc (fun e=>(hp e).elim) (fun _=>h)
theorem G.region {id:Nat} {L:List Oper} (h:GL P K Q L L ρ l r):G P K Q (.region id L.toArray false) ρ l r:=fun a w ha=>wp_region_lit (h a w ha)
theorem G.asv {id:Nat} {L:List Oper} (E:Nat) (order:List (Nat × Kd)) (hm:P.follows .mixedOrders=true) (hB:Jb L E order=true) (hQ:∀c a w (d:Nat) v,Q (.panic c) (a.put (some d) v) w→Q (.panic c) a w) (h:GP P K Q L order ρ l r):G P K Q (.region id L.toArray true) ρ l r:=
  fun a w ha=>FO E order hm hB hQ (h a w.drew ha.drew)
theorem GQ.aW {y:Code} (h:G P K Q y ρ l r):GQ K (Exit.then (y.wp P Q) Q) .normal ρ l r:=h
theorem GQ.c8 {X:Act→World→Prop} {id:Nat} (h:GQ K Q (.exit id) ρ l r):GQ K (Exit.then X Q) (.exit id) ρ l r:=h
theorem GQ.dL {id:Nat} (h:GQ K Q .normal ρ l r):GQ K (Exit.inBlock id Q) .normal ρ l r:=h
theorem GQ.eL {id:Nat} (h:GQ K Q .normal ρ l r):GQ K (Exit.inBlock id Q) (.exit id) ρ l r:=fun a w ha=>by simp only[Exit.inBlock,if_true];exact h a w ha
theorem GQ.FP {id id':Nat} (v9:Nat.beq id' id=false) (h:GQ K Q (.exit id') ρ l r):GQ K (Exit.inBlock id Q) (.exit id') ρ l r:=
  fun a w ha=>by simp only[Exit.inBlock,if_neg (Nat.ne_of_beq_eq_false v9)];exact h a w ha
def MB (K:Kx) (I:Nat→aC→List au→Prop) (r:List au) (n:Nat) (a:Act) (w:World):Prop:=∃m,m<n∧∃ρ l,I m ρ l∧At K ρ l r a w
theorem G.loop {c:Code} (I:Nat→aC→List au→Prop) {n:Nat} {ρ0:aC} (h0:I n ρ0 l) (hs:Sub ρ0 ρ)
    (h:∀n ρ l,I n ρ l→G P K (Exit.then (MB K I r n) Q) c ρ l r):G P K Q (.loop c) ρ l r:=by
  intro a w ha;refine wp_loop (fun a w=>∃n,MB K I r n a w) (fun a w=>Classical.epsilon fun n=>(∃ρ l,I n ρ l∧At K ρ l r a w)∧∀m,(∃ρ l,I m ρ l∧At K ρ l r a w)→n≤m) ⟨n+1,n,Nat.lt_succ_self _,ρ0,l,h0,ha.sub hs⟩ ?_;intro a w ⟨_,m,_,ρ,l,hI,hA⟩;have least:∀(a:Act) (w:World) (m:Nat),(∃ρ l,I m ρ l∧At K ρ l r a w)→∃n,(∃ρ l,I n ρ l∧At K ρ l r a w)∧∀m,(∃ρ l,I m ρ l∧At K ρ l r a w)→n≤m:=by
    intro a w m;induction m using Nat.strongRecOn with
    |_ m ih=>
      intro hm;by_cases hx:∃k,k<m∧∃ρ l,I k ρ l∧At K ρ l r a w
      · obtain⟨k,hk,uw⟩:=hx;grind
      · grind
  have e1:=Classical.epsilon_spec (least a w m ⟨ρ,l,hI,hA⟩);generalize hN:(Classical.epsilon fun n=>(∃ρ l,I n ρ l∧At K ρ l r a w)∧∀m,(∃ρ l,I m ρ l∧At K ρ l r a w)→n≤m)=N at*;obtain⟨⟨ρ1,l1,LY,hA1⟩,_⟩:=e1;refine wp_mono (h N ρ1 l1 LY a w hA1) ?_;intro e a' w' hq;cases e with
  |normal=>
    obtain⟨m',hm',ρ',l',hI',hA'⟩:=hq;refine⟨⟨N,m',hm',ρ',l',hI',hA'⟩,?_⟩;have e2:=Classical.epsilon_spec (least a' w' m' ⟨ρ',l',hI',hA'⟩);have:=e2.2 m' ⟨ρ',l',hI',hA'⟩;omega
  |_=>exact hq
theorem GQ.back {I:Nat→aC→List au→Prop} {n m:Nat} {ρ':aC} (hm:m<n) (hI:I m ρ' l) (hs:Sub ρ' ρ):GQ K (Exit.then (MB K I r n) Q) .normal ρ l r:=
  fun a w ha=>⟨m,hm,ρ',l,hI,ha.sub hs⟩
theorem GQ.meet {M:aC→List au→Prop} {ρ':aC} (hM:M ρ' l) (hs:Sub ρ' ρ):GQ K (Exit.then (fun a w=>∃ρ l,M ρ l∧At K ρ l r a w) Q) .normal ρ l r:=
  fun a w ha=>⟨ρ',l,hM,ha.sub hs⟩
def aG (P:Program) (ρ:aC) (o:Oper) (v:Value):Prop:=∀a,sP ρ a→∀w,(execOp a.eval o).run P w=.ok (.value v) w
def nN (P:Program) (ρ:aC) (l r:List au) (o:Oper) (v:Value):Prop:=∀a w,sP ρ a→St l r w→(execOp a.eval o).run P w=.ok (.value v) w
def kB (P:Program) (K:Kx) (ρ:aC) (l r:List au) (o:Oper) (N:aC→List au→Prop):Prop:=
  ∀a w,At K ρ l r a w→∀(nx:Act→World→Prop) (Q:Exit→Act→World→Prop),(∀a' w',(∃ρ' l',N ρ' l'∧At K ρ' l' r a' w')→nx a' w')→o.wp P a w nx Q
def want (L:List Oper) (ρ:aC) (o:Oper):Option Bool:=
  match o.guard with
  |none=>some true
  |some (j,b)=>match (nth j L).bind (·.dst) with
    |some t=>match look t ρ with
      |some (.bool b')=>some (match b',b with|true,true=>true|false,false=>true|_,_=>false)
      |_=>none
    |none=>none
theorem gO {L:List Oper} {ρ:aC} {o:Oper} {b:Bool} (h:want L ρ o=some b) {a:Act} (ha:sP ρ a):Region.wanted o (yielded L.toArray a.tmps)=b:=by
  unfold want at h;unfold Region.wanted;cases hg:o.guard with
  |none=>simp only[hg] at h ⊢;exact Option.some.inj h
  |some p=>
    obtain⟨j,b0⟩:=p;simp only[hg] at h ⊢;unfold yielded;cases hj:nth j L with
    |none=>simp[hj] at h
    |some oj=>
      rw[iT hj];simp only[hj,Option.bind_some] at h ⊢;cases hd:oj.dst with
      |none=>simp[hd] at h
      |some t=>
        simp only[hd,Option.bind_some] at h ⊢;cases hl:look t ρ with
        |none=>simp[hl] at h
        |some v=>
          rw[ha t v hl];cases v<;>simp only[hl] at h<;>try (cases h)
          rename_i b';cases b'<;>cases b0<;>simp
end
section
variable {P:Program} {K:Kx} {Q:Exit→Act→World→Prop} {ρ:aC} {l r:List au} {L rest:List Oper} {o:Oper} {d:Nat} {v:Value}
theorem aG.zf (h:aG P ρ o v):nN P ρ l r o v:=fun a w ha _=>h a ha w
theorem GL.rd (h:nN P ρ l r o v) (hw:want L ρ o=some true) (hd:o.dst=some d) (hn:Nat.blt d K.n=true) (k:GL P K Q L rest ((d,v)::ρ) l r):GL P K Q L (o::rest) ρ l r:=by
  intro a w ha;unfold wpList;rw[if_pos (gO hw ha.fr)];left;unfold Oper.wp;rw[h a w ha.fr ha.st];simp only[Oper.upon,hd];exact k _ _ (ha.put hn v)
theorem GL.y (h:aG P ρ o v) (hw:want L ρ o=some true) (hd:o.dst=some d) (hn:Nat.blt d K.n=true) (k:GL P K Q L rest ((d,v)::ρ) l r):GL P K Q L (o::rest) ρ l r:=
  GL.rd h.zf hw hd hn k
theorem GL.skip (hw:want L ρ o=some false) (hd:o.dst=some d) (hn:Nat.blt d K.n=true) (k:GL P K Q L rest ((d,undef)::ρ) l r):GL P K Q L (o::rest) ρ l r:=by
  intro a w ha;unfold wpList;rw[if_neg (by rw[gO hw ha.fr];simp),hd];exact k _ _ (ha.put hn undef)
theorem GL.dj {N:aC→List au→Prop} (h:kB P K ρ l r o N) (hw:want L ρ o=some true) (k:∀ρ' l',N ρ' l'→GL P K Q L rest ρ' l' r):GL P K Q L (o::rest) ρ l r:=by
  intro a w ha;unfold wpList;rw[if_pos (gO hw ha.fr)];left;exact h a w ha _ _ fun a' w' ⟨ρ',l',hN,hA⟩=>k ρ' l' hN a' w' hA
theorem GL.nil (h:GQ K Q .normal ρ l r):GL P K Q L [] ρ l r:=fun a w ha=>h a w ha
theorem At.Kw {a:Act} {w:World} {t:Nat} {b b':Bool} (h:At K ρ l r a w) (hl:look t ρ=some (.bool b)) (e:b=b'):At K ((t,.bool b')::ρ) l r a w:=by
  subst e;refine⟨h.size,h.defers,fun u x hu=>?_,h.keeps,h.st,h.own⟩;simp only[look,cond_eq_ite] at hu;by_cases e:Nat.beq t u=true
  · rw[if_pos e] at hu;rw[←Nat.eq_of_beq_eq_true e, ←Option.some.inj hu];exact h.fr _ _ hl
  · rw[if_neg e] at hu;exact h.fr _ _ hu
theorem GL.split {t:Nat} {p:Prop} [Decidable p] (hl:look t ρ=some (.bool (decide p))) (h1:p→GL P K Q L rest ((t,.bool true)::ρ) l r) (h2:¬p→GL P K Q L rest ((t,.bool false)::ρ) l r):GL P K Q L rest ρ l r:=by
  intro a w ha;by_cases hp:p
  · exact h1 hp a w (ha.Kw hl (decide_eq_true hp))
  · exact h2 hp a w (ha.Kw hl (decide_eq_false hp))
theorem GL.MC {t:Nat} {b:Bool} (hl:look t ρ=some (.bool b)) (h1:b=true→GL P K Q L rest ((t,.bool true)::ρ) l r) (h2:b=false→GL P K Q L rest ((t,.bool false)::ρ) l r):GL P K Q L rest ρ l r:=by
  intro a w ha;cases b with
  |true=>exact h1 rfl a w (ha.Kw hl rfl)
  |false=>exact h2 rfl a w (ha.Kw hl rfl)
theorem GL.MD {t:Nat} {p:Prop} [Decidable p] (hl:look t ρ=some (.bool (decide p))) (hp:p) (h1:GL P K Q L rest ((t,.bool true)::ρ) l r):GL P K Q L rest ρ l r:=GL.split hl (fun _=>h1) (fun h=>(h hp).elim)
theorem GL.w4 {t:Nat} {p:Prop} [Decidable p] (hl:look t ρ=some (.bool (decide p))) (hp:¬p) (h1:GL P K Q L rest ((t,.bool false)::ρ) l r):GL P K Q L rest ρ l r:=GL.split hl (fun h=>(hp h).elim) (fun _=>h1)
variable {i:Nat} {os:List (Nat × Kd)}
theorem GP.y (h:aG P ρ o v) (hi:nth i L=some o) (hw:want L ρ o=some true) (hd:o.dst=some d) (hn:Nat.blt d K.n=true) (k:GP P K Q L os ((d,v)::ρ) l r):GP P K Q L ((i,.y)::os) ρ l r:=
  fun a w ha=>⟨o,v,iT hi,.inl ⟨gO hw ha.fr,fun w'=>h a ha.fr w'⟩,by rw[hd];exact k _ _ (ha.put hn v)⟩
theorem GP.skip (hi:nth i L=some o) (hw:want L ρ o=some false) (hd:o.dst=some d) (hn:Nat.blt d K.n=true) (k:GP P K Q L os ((d,undef)::ρ) l r):GP P K Q L ((i,.y)::os) ρ l r:=
  fun a w ha=>⟨o,undef,iT hi,.inr ⟨gO hw ha.fr,rfl⟩,by rw[hd];exact k _ _ (ha.put hn undef)⟩
theorem GP.ME (hi:nth i L=some o) (hw:want L ρ o=some false) (hd:o.dst=some d) (hn:Nat.blt d K.n=true) (k:GP P K Q L os ((d,undef)::ρ) l r):GP P K Q L ((i,.r)::os) ρ l r:=
  fun a w ha=>⟨o,undef,iT hi,.inr ⟨gO hw ha.fr,rfl⟩,by rw[hd];exact k _ _ (ha.put hn undef)⟩
theorem GP.rd (h:nN P ρ l r o v) (hi:nth i L=some o) (hw:want L ρ o=some true) (hd:o.dst=some d) (hn:Nat.blt d K.n=true) (k:GP P K Q L os ((d,v)::ρ) l r):GP P K Q L ((i,.r)::os) ρ l r:=
  fun a w ha=>⟨o,v,iT hi,.inl ⟨gO hw ha.fr,.inl (h a w ha.fr ha.st)⟩,by rw[hd];exact k _ _ (ha.put hn v)⟩
theorem GP.dj {N:aC→List au→Prop} (h:kB P K ρ l r o N) (hi:nth i L=some o) (hw:want L ρ o=some true) (k:∀ρ' l',N ρ' l'→GP P K Q L os ρ' l' r):GP P K Q L ((i,.e)::os) ρ l r:=by
  intro a w ha;show wpOp P L.toArray Q i (wpP P L.toArray Q os) a w;unfold wpOp;rw[iT hi];simp only[];rw[if_pos (gO hw ha.fr)];left;exact h a w ha _ _ fun a' w' ⟨ρ',l',hN,hA⟩=>k ρ' l' hN a' w' hA
theorem GP.nil (h:GQ K Q .normal ρ l r):GP P K Q L [] ρ l r:=fun a w ha=>h a w ha
theorem GP.split {t:Nat} {p:Prop} [Decidable p] (hl:look t ρ=some (.bool (decide p))) (h1:p→GP P K Q L os ((t,.bool true)::ρ) l r) (h2:¬p→GP P K Q L os ((t,.bool false)::ρ) l r):GP P K Q L os ρ l r:=by
  intro a w ha;by_cases hp:p
  · exact h1 hp a w (ha.Kw hl (decide_eq_true hp))
  · exact h2 hp a w (ha.Kw hl (decide_eq_false hp))
section
variable {x y z:Operand} {ty bN:TypeId} {k:IntKind} {a b:Int} {m n:Nat} {u:Value}
theorem Bd (ho:o.op=.move x) (hx:ev ρ x=some v):aG P ρ o v:=fun ac ha w=>by simp[execOp,ho,bf ha hx]
theorem qO (ho:o.op=.assign x) (hx:ev ρ x=some v):aG P ρ o v:=fun ac ha w=>by simp[execOp,ho,bf ha hx]
theorem VK (ho:o.op=.pick x y z) (hx:ev ρ x=some (.bool true)) (hy:ev ρ y=some v):aG P ρ o v:=fun ac ha w=>by simp[execOp,ho,bf ha hx,bf ha hy,asBool]
theorem VL (ho:o.op=.pick x y z) (hx:ev ρ x=some (.bool false)) (hz:ev ρ z=some v):aG P ρ o v:=fun ac ha w=>by simp[execOp,ho,bf ha hx,bf ha hz,asBool]
theorem asw {p:Addr} (ho:o.op=.nilCheck x) (hx:ev ρ x=some (.pointer (some p))):aG P ρ o (.pointer (some p)):=fun ac ha w=>by simp[execOp,ho,bf ha hx]
theorem asx {vs:Array Value} {i:Nat} (ho:o.op=.extract x i) (hx:ev ρ x=some (.tuple vs)) (hv:vs[i]? =some v):aG P ρ o v:=fun ac ha w=>by
  simp[execOp,ho,bf ha hx,Instr.extract,hv]
theorem iV {bo:BinOp} (ho:o.op=.binOp bo ty x y bN) (hx:ev ρ x=some (.int k a)) (hy:ev ρ y=some (.int k b)) (h:∀w,(binOp bo ty (.int k a) (.int k b)).run P w=.ok u w):aG P ρ o u:=fun ac ha w=>by
  have e:(eqGuard bo ty x y (.int k a) (.int k b))=pure ():=by unfold eqGuard;split<;>rfl
  simp[execOp,ho,bf ha hx,bf ha hy,e,h]
theorem oK (ho:o.op=.binOp .add ty x y bN) (hx:ev ρ x=some (.int k a)) (hy:ev ρ y=some (.int k b)):aG P ρ o (.int k (k.wrap (a+b))):=iV ho hx hy fun w=>by simp[binOp,Op.intArith]
theorem l8 (ho:o.op=.binOp .sub ty x y bN) (hx:ev ρ x=some (.int k a)) (hy:ev ρ y=some (.int k b)):aG P ρ o (.int k (k.wrap (a-b))):=iV ho hx hy fun w=>by simp[binOp,Op.intArith]
theorem vu (ho:o.op=.binOp .mul ty x y bN) (hx:ev ρ x=some (.int k a)) (hy:ev ρ y=some (.int k b)):aG P ρ o (.int k (k.wrap (a*b))):=iV ho hx hy fun w=>by simp[binOp,Op.intArith]
theorem FQ (ho:o.op=.binOp .lss ty x y bN) (hx:ev ρ x=some (.int k a)) (hy:ev ρ y=some (.int k b)):aG P ρ o (.bool (decide (a<b))):=iV ho hx hy fun w=>by simp[binOp,Op.intCmp]
theorem VM (ho:o.op=.binOp .leq ty x y bN) (hx:ev ρ x=some (.int k a)) (hy:ev ρ y=some (.int k b)):aG P ρ o (.bool (decide (a≤b))):=iV ho hx hy fun w=>by simp[binOp,Op.intCmp]
theorem MF (ho:o.op=.binOp .gtr ty x y bN) (hx:ev ρ x=some (.int k a)) (hy:ev ρ y=some (.int k b)):aG P ρ o (.bool (decide (b<a))):=iV ho hx hy fun w=>by simp[binOp,Op.intCmp]
theorem MG (ho:o.op=.binOp .geq ty x y bN) (hx:ev ρ x=some (.int k a)) (hy:ev ρ y=some (.int k b)):aG P ρ o (.bool (decide (b≤a))):=iV ho hx hy fun w=>by simp[binOp,Op.intCmp]
theorem w5 (ho:o.op=.binOp .eql ty x y bN) (hx:ev ρ x=some (.int k a)) (hy:ev ρ y=some (.int k b)):aG P ρ o (.bool (decide (a=b))):=iV ho hx hy fun w=>by simp[binOp,Op.intCmp];rfl
theorem asy (ho:o.op=.binOp .neq ty x y bN) (hx:ev ρ x=some (.int k a)) (hy:ev ρ y=some (.int k b)):aG P ρ o (.bool (decide (a≠b))):=iV ho hx hy fun w=>by
  simp[binOp,Op.intCmp,bne];grind
end
end
section
variable {P:Program} {ρ:aC} {o:Oper} {v:Value} {x y:Operand} {ty bN:TypeId} {k k':IntKind} {a b:Int} {m n:Nat}
theorem aG.cast {u:Value} (h:aG P ρ o u) (e:u=v):aG P ρ o v:=e▸h
theorem w6 {bo:BinOp} {u:Value} (ho:o.op=.binOp bo ty x y bN) (hx:ev ρ x=some (.int k a)) (hy:ev ρ y=some (.int k b)) (h:∀w,(Op.intBits bo k a b).run P w=.ok u w) (hb:bo=.and∨bo=.or∨bo=.xor∨bo=.andNot):aG P ρ o u:=
  iV ho hx hy fun w=>by rcases hb with rfl|rfl|rfl|rfl<;>simpa [binOp] using h w
theorem uI (ho:o.op=.binOp .and ty x y bN) (hx:ev ρ x=some (.int k a)) (hy:ev ρ y=some (.int k b)):aG P ρ o (.int k (k.wrap (BitVec.ofInt k.bits a&&&BitVec.ofInt k.bits b).toNat)):=w6 ho hx hy (fun w=>by simp[Op.intBits]) Oi
theorem C1 (ho:o.op=.binOp .or ty x y bN) (hx:ev ρ x=some (.int k a)) (hy:ev ρ y=some (.int k b)):aG P ρ o (.int k (k.wrap (BitVec.ofInt k.bits a|||BitVec.ofInt k.bits b).toNat)):=w6 ho hx hy (fun w=>by simp[Op.intBits]) Oi
theorem Ky (ho:o.op=.binOp .andNot ty x y bN) (hx:ev ρ x=some (.int k a)) (hy:ev ρ y=some (.int k b)):aG P ρ o (.int k (k.wrap (BitVec.ofInt k.bits a&&& ~~~BitVec.ofInt k.bits b).toNat)):=w6 ho hx hy (fun w=>by simp[Op.intBits]) Oi
theorem lK (ho:o.op=.binOp .shl ty x y bN) (hx:ev ρ x=some (.int k a)) (hy:ev ρ y=some (.int k' (n:Nat))):aG P ρ o (.int k (k.wrap (a*2^(min n k.bits)))):=fun ac ha w=>by
  have e:(eqGuard .shl ty x y (.int k a) (.int k' (n:Nat)))=pure ():=by unfold eqGuard;split<;>rfl
  simp[execOp,ho,bf ha hx,bf ha hy,e,binOp,Op.shift];intro h;omega
theorem rA (ho:o.op=.binOp .shr ty x y bN) (hx:ev ρ x=some (.int k a)) (hy:ev ρ y=some (.int k' (n:Nat))):aG P ρ o (.int k (a.fdiv (2^(min n k.bits)))):=fun ac ha w=>by
  have e:(eqGuard .shr ty x y (.int k a) (.int k' (n:Nat)))=pure ():=by unfold eqGuard;split<;>rfl
  simp[execOp,ho,bf ha hx,bf ha hy,e,binOp,Op.shift];intro h;omega
theorem w7 (ho:o.op=.binOp .quo ty x y bN) (hx:ev ρ x=some (.int k a)) (hy:ev ρ y=some (.int k b)) (hb:b≠0):aG P ρ o (.int k (k.wrap (a.tdiv b))):=iV ho hx hy fun w=>by simp[binOp,Op.intDiv,hb]
theorem MH {p:Prop} [Decidable p] (ho:o.op=.unOp .not ty x) (hx:ev ρ x=some (.bool (decide p))):aG P ρ o (.bool (decide (¬p))):=fun ac ha w=>by
  by_cases hp:p<;>simp[execOp,ho,bf ha hx,Op.unary,hp]
theorem FR {b:Bool} (ho:o.op=.unOp .not ty x) (hx:ev ρ x=some (.bool b)):aG P ρ o (.bool (!b)):=fun ac ha w=>by
  simp[execOp,ho,bf ha hx,Op.unary]
theorem aiZ (ho:o.op=.unOp .neg ty x) (hx:ev ρ x=some (.int k a)):aG P ρ o (.int k (k.wrap (-a))):=fun ac ha w=>by
  simp[execOp,ho,bf ha hx,Op.unary,Op.intArith]
theorem iW {s t:TypeId} {D:TypeDesc} (ho:o.op=.convert s t x) (hs:P.underlying s=some D) (ht:P.underlying t=some (.int k')) (hx:ev ρ x=some (.int k a)):aG P ρ o (.int k' (k'.wrap a)):=fun ac ha w=>by
  cases D<;>simp[execOp,ho,bf ha hx,convert,underlying,hs,ht,Conv.intToInt]
theorem mW (k:IntKind) (m n:Nat) (h:m<2^k.bits):((m:Nat):Int).fdiv (2^(min n k.bits))=((m/2^n:Nat):Int):=by
  have e:((2:Int)^(min n k.bits))=((2^(min n k.bits):Nat):Int):=Oi;rw[e,Int.fdiv_eq_ediv_of_nonneg _ (Int.natCast_nonneg _), ←Int.natCast_ediv];congr 1;rcases Nat.le_total n k.bits with h1|h1
  · grind
  · rw[Nat.min_eq_right h1,Nat.div_eq_of_lt h,Nat.div_eq_of_lt (Nat.lt_of_lt_of_le h (Nat.pow_le_pow_right Om h1))]
theorem eM (b m:Nat) (h:m<2^b):(BitVec.ofInt b (m:Int)).toNat=m:=by
  grind
end
section
variable {P:Program} {ρ:aC} {o:Oper} {x y:Operand} {ty bN:TypeId} {k':IntKind} {a b:Int} {m n:Nat}
theorem VN (ho:o.op=.binOp .sub ty x y bN) (hx:ev ρ x=some (.int .i8 (m:Nat))) (hy:ev ρ y=some (.int .i8 (n:Nat))) (h:n≤m∧m≤127):aG P ρ o (.int .i8 ((m-n:Nat):Int)):=(l8 ho hx hy).cast (by
  have e:((m:Nat):Int)-((n:Nat):Int)=((m-n:Nat):Int):=Om;rw[e,IntWalk.i8_in _ ⟨Om,Om⟩])
theorem aby {s t:TypeId} {D:TypeDesc} {k:IntKind} (ho:o.op=.convert s t x) (hs:P.underlying s=some D) (ht:P.underlying t=some (.int .i8)) (hx:ev ρ x=some (.int k (m:Nat))) (h:m≤127):aG P ρ o (.int .i8 ((m:Nat):Int)):=(iW ho hs ht hx).cast (by rw[IntWalk.i8_in _ ⟨Om,Om⟩])
theorem j5 (ho:o.op=.binOp .add ty x y bN) (hx:ev ρ x=some (.int .i16 a)) (hy:ev ρ y=some (.int .i16 b)) (h: -32768≤a+b∧a+b≤32767):aG P ρ o (.int .i16 (a+b)):=(oK ho hx hy).cast (by rw[IntWalk.i16_in _ h])
theorem iX (ho:o.op=.binOp .sub ty x y bN) (hx:ev ρ x=some (.int .i16 a)) (hy:ev ρ y=some (.int .i16 b)) (h: -32768≤a-b∧a-b≤32767):aG P ρ o (.int .i16 (a-b)):=(l8 ho hx hy).cast (by rw[IntWalk.i16_in _ h])
theorem MI (ho:o.op=.binOp .add ty x y bN) (hx:ev ρ x=some (.int .i16 (m:Nat))) (hy:ev ρ y=some (.int .i16 (n:Nat))) (h:m+n≤32767):aG P ρ o (.int .i16 ((m+n:Nat):Int)):=(oK ho hx hy).cast (by
  have e:((m:Nat):Int)+((n:Nat):Int)=((m+n:Nat):Int):=Oi;rw[e,IntWalk.i16_in _ ⟨Om,Om⟩])
theorem MJ (ho:o.op=.binOp .mul ty x y bN) (hx:ev ρ x=some (.int .i16 (m:Nat))) (hy:ev ρ y=some (.int .i16 (n:Nat))) (h:m*n≤32767):aG P ρ o (.int .i16 ((m*n:Nat):Int)):=(vu ho hx hy).cast (by
  have e:((m:Nat):Int)*((n:Nat):Int)=((m*n:Nat):Int):=Oi;rw[e,IntWalk.i16_in _ ⟨Om,Om⟩])
theorem MK (ho:o.op=.binOp .sub ty x y bN) (hx:ev ρ x=some (.int .i16 (m:Nat))) (hy:ev ρ y=some (.int .i16 (n:Nat))) (h:n≤m∧m≤32767):aG P ρ o (.int .i16 ((m-n:Nat):Int)):=(l8 ho hx hy).cast (by
  have e:((m:Nat):Int)-((n:Nat):Int)=((m-n:Nat):Int):=Om;rw[e,IntWalk.i16_in _ ⟨Om,Om⟩])
theorem ML (ho:o.op=.binOp .shr ty x y bN) (hx:ev ρ x=some (.int .i16 (m:Nat))) (hy:ev ρ y=some (.int k' (n:Nat))) (h:m<65536):aG P ρ o (.int .i16 ((m/2^n:Nat):Int)):=(rA ho hx hy).cast (by rw[mW _ _ _ (by simpa [IntKind.bits] using h)])
theorem MM (ho:o.op=.binOp .shl ty x y bN) (hx:ev ρ x=some (.int .i16 (m:Nat))) (hy:ev ρ y=some (.int k' (n:Nat))) (hn:n≤16) (h:m*2^n≤32767):aG P ρ o (.int .i16 ((m*2^n:Nat):Int)):=(lK ho hx hy).cast (by
  have e:((m:Nat):Int)*2^(min n (IntKind.bits .i16))=((m*2^n:Nat):Int):=by
    rw[Nat.min_eq_left (by simpa [IntKind.bits] using hn)];simp
  rw[e,IntWalk.i16_in _ ⟨Om,Om⟩])
theorem VO {s t:TypeId} {D:TypeDesc} {k:IntKind} (ho:o.op=.convert s t x) (hs:P.underlying s=some D) (ht:P.underlying t=some (.int .i16)) (hx:ev ρ x=some (.int k (m:Nat))) (h:m≤32767):aG P ρ o (.int .i16 ((m:Nat):Int)):=(iW ho hs ht hx).cast (by rw[IntWalk.i16_in _ ⟨Om,Om⟩])
theorem VP {s t:TypeId} {D:TypeDesc} {k:IntKind} (ho:o.op=.convert s t x) (hs:P.underlying s=some D) (ht:P.underlying t=some (.int .i16)) (hx:ev ρ x=some (.int k a)) (h: -32768≤a∧a≤32767):aG P ρ o (.int .i16 a):=(iW ho hs ht hx).cast (by rw[IntWalk.i16_in _ h])
theorem oL (ho:o.op=.binOp .add ty x y bN) (hx:ev ρ x=some (.int .i32 a)) (hy:ev ρ y=some (.int .i32 b)) (h: -2147483648≤a+b∧a+b≤2147483647):aG P ρ o (.int .i32 (a+b)):=(oK ho hx hy).cast (by rw[IntWalk.i32_in _ h])
theorem w8 (ho:o.op=.binOp .sub ty x y bN) (hx:ev ρ x=some (.int .i32 a)) (hy:ev ρ y=some (.int .i32 b)) (h: -2147483648≤a-b∧a-b≤2147483647):aG P ρ o (.int .i32 (a-b)):=(l8 ho hx hy).cast (by rw[IntWalk.i32_in _ h])
theorem MN (ho:o.op=.binOp .add ty x y bN) (hx:ev ρ x=some (.int .i32 (m:Nat))) (hy:ev ρ y=some (.int .i32 (n:Nat))) (h:m+n≤2147483647):aG P ρ o (.int .i32 ((m+n:Nat):Int)):=(oK ho hx hy).cast (by
  have e:((m:Nat):Int)+((n:Nat):Int)=((m+n:Nat):Int):=Oi;rw[e,IntWalk.i32_in _ ⟨Om,Om⟩])
theorem MO (ho:o.op=.binOp .mul ty x y bN) (hx:ev ρ x=some (.int .i32 (m:Nat))) (hy:ev ρ y=some (.int .i32 (n:Nat))) (h:m*n≤2147483647):aG P ρ o (.int .i32 ((m*n:Nat):Int)):=(vu ho hx hy).cast (by
  have e:((m:Nat):Int)*((n:Nat):Int)=((m*n:Nat):Int):=Oi;rw[e,IntWalk.i32_in _ ⟨Om,Om⟩])
theorem MP (ho:o.op=.binOp .sub ty x y bN) (hx:ev ρ x=some (.int .i32 (m:Nat))) (hy:ev ρ y=some (.int .i32 (n:Nat))) (h:n≤m∧m≤2147483647):aG P ρ o (.int .i32 ((m-n:Nat):Int)):=(l8 ho hx hy).cast (by
  have e:((m:Nat):Int)-((n:Nat):Int)=((m-n:Nat):Int):=Om;rw[e,IntWalk.i32_in _ ⟨Om,Om⟩])
theorem MQ (ho:o.op=.binOp .shr ty x y bN) (hx:ev ρ x=some (.int .i32 (m:Nat))) (hy:ev ρ y=some (.int k' (n:Nat))) (h:m<4294967296):aG P ρ o (.int .i32 ((m/2^n:Nat):Int)):=(rA ho hx hy).cast (by rw[mW _ _ _ (by simpa [IntKind.bits] using h)])
theorem MR (ho:o.op=.binOp .shl ty x y bN) (hx:ev ρ x=some (.int .i32 (m:Nat))) (hy:ev ρ y=some (.int k' (n:Nat))) (hn:n≤32) (h:m*2^n≤2147483647):aG P ρ o (.int .i32 ((m*2^n:Nat):Int)):=(lK ho hx hy).cast (by
  have e:((m:Nat):Int)*2^(min n (IntKind.bits .i32))=((m*2^n:Nat):Int):=by
    rw[Nat.min_eq_left (by simpa [IntKind.bits] using hn)];simp
  rw[e,IntWalk.i32_in _ ⟨Om,Om⟩])
theorem VQ {s t:TypeId} {D:TypeDesc} {k:IntKind} (ho:o.op=.convert s t x) (hs:P.underlying s=some D) (ht:P.underlying t=some (.int .i32)) (hx:ev ρ x=some (.int k (m:Nat))) (h:m≤2147483647):aG P ρ o (.int .i32 ((m:Nat):Int)):=(iW ho hs ht hx).cast (by rw[IntWalk.i32_in _ ⟨Om,Om⟩])
theorem Jc {s t:TypeId} {D:TypeDesc} {k:IntKind} (ho:o.op=.convert s t x) (hs:P.underlying s=some D) (ht:P.underlying t=some (.int .i32)) (hx:ev ρ x=some (.int k a)) (h: -2147483648≤a∧a≤2147483647):aG P ρ o (.int .i32 a):=(iW ho hs ht hx).cast (by rw[IntWalk.i32_in _ h])
theorem C4 (ho:o.op=.binOp .add ty x y bN) (hx:ev ρ x=some (.int .i64 a)) (hy:ev ρ y=some (.int .i64 b)) (h: -9223372036854775808≤a+b∧a+b≤9223372036854775807):aG P ρ o (.int .i64 (a+b)):=(oK ho hx hy).cast (by rw[IntWalk.i64_in _ h])
theorem iY (ho:o.op=.binOp .sub ty x y bN) (hx:ev ρ x=some (.int .i64 a)) (hy:ev ρ y=some (.int .i64 b)) (h: -9223372036854775808≤a-b∧a-b≤9223372036854775807):aG P ρ o (.int .i64 (a-b)):=(l8 ho hx hy).cast (by rw[IntWalk.i64_in _ h])
theorem MS (ho:o.op=.binOp .mul ty x y bN) (hx:ev ρ x=some (.int .i64 a)) (hy:ev ρ y=some (.int .i64 b)) (h: -9223372036854775808≤a*b∧a*b≤9223372036854775807):aG P ρ o (.int .i64 (a*b)):=(vu ho hx hy).cast (by rw[IntWalk.i64_in _ h])
theorem MT (ho:o.op=.binOp .add ty x y bN) (hx:ev ρ x=some (.int .i64 (m:Nat))) (hy:ev ρ y=some (.int .i64 (n:Nat))) (h:m+n≤9223372036854775807):aG P ρ o (.int .i64 ((m+n:Nat):Int)):=(oK ho hx hy).cast (by
  have e:((m:Nat):Int)+((n:Nat):Int)=((m+n:Nat):Int):=Oi;rw[e,IntWalk.i64_in _ ⟨Om,Om⟩])
theorem MU (ho:o.op=.binOp .mul ty x y bN) (hx:ev ρ x=some (.int .i64 (m:Nat))) (hy:ev ρ y=some (.int .i64 (n:Nat))) (h:m*n≤9223372036854775807):aG P ρ o (.int .i64 ((m*n:Nat):Int)):=(vu ho hx hy).cast (by
  have e:((m:Nat):Int)*((n:Nat):Int)=((m*n:Nat):Int):=Oi;rw[e,IntWalk.i64_in _ ⟨Om,Om⟩])
theorem MV (ho:o.op=.binOp .sub ty x y bN) (hx:ev ρ x=some (.int .i64 (m:Nat))) (hy:ev ρ y=some (.int .i64 (n:Nat))) (h:n≤m∧m≤9223372036854775807):aG P ρ o (.int .i64 ((m-n:Nat):Int)):=(l8 ho hx hy).cast (by
  have e:((m:Nat):Int)-((n:Nat):Int)=((m-n:Nat):Int):=Om;rw[e,IntWalk.i64_in _ ⟨Om,Om⟩])
theorem MW (ho:o.op=.binOp .and ty x y bN) (hx:ev ρ x=some (.int .i64 (m:Nat))) (hy:ev ρ y=some (.int .i64 (n:Nat))) (h:m<9223372036854775808∨n<9223372036854775808) (hm:m<18446744073709551616) (hn:n<18446744073709551616):aG P ρ o (.int .i64 ((m&&&n:Nat):Int)):=(uI ho hx hy).cast (by
  rw[BitVec.toNat_and,show IntKind.bits .i64=64 from rfl,eM _ _ hm,eM _ _ hn,IntWalk.i64_in _ ⟨Om,?_⟩];have h1:=@Nat.and_le_left m n;have h2:=@Nat.and_le_right m n;omega)
theorem VR (ho:o.op=.binOp .or ty x y bN) (hx:ev ρ x=some (.int .i64 (m:Nat))) (hy:ev ρ y=some (.int .i64 (n:Nat))) (hm:m<9223372036854775808) (hn:n<9223372036854775808):aG P ρ o (.int .i64 ((m|||n:Nat):Int)):=(C1 ho hx hy).cast (by
  rw[BitVec.toNat_or,show IntKind.bits .i64=64 from rfl,eM _ _ Om,eM _ _ Om,IntWalk.i64_in _ ⟨Om,?_⟩];have h1:=Nat.or_lt_two_pow (n:=63) (x:=m) (y:=n) Om Om;omega)
theorem MX (ho:o.op=.binOp .shr ty x y bN) (hx:ev ρ x=some (.int .i64 (m:Nat))) (hy:ev ρ y=some (.int k' (n:Nat))) (h:m<18446744073709551616):aG P ρ o (.int .i64 ((m/2^n:Nat):Int)):=(rA ho hx hy).cast (by rw[mW _ _ _ (by simpa [IntKind.bits] using h)])
theorem MY (ho:o.op=.binOp .shl ty x y bN) (hx:ev ρ x=some (.int .i64 (m:Nat))) (hy:ev ρ y=some (.int k' (n:Nat))) (hn:n≤64) (h:m*2^n≤9223372036854775807):aG P ρ o (.int .i64 ((m*2^n:Nat):Int)):=(lK ho hx hy).cast (by
  have e:((m:Nat):Int)*2^(min n (IntKind.bits .i64))=((m*2^n:Nat):Int):=by
    rw[Nat.min_eq_left (by simpa [IntKind.bits] using hn)];simp
  rw[e,IntWalk.i64_in _ ⟨Om,Om⟩])
theorem MZ (ho:o.op=.binOp .quo ty x y bN) (hx:ev ρ x=some (.int .i64 (m:Nat))) (hy:ev ρ y=some (.int .i64 (n:Nat))) (h0:0<n) (hm:m≤9223372036854775807):aG P ρ o (.int .i64 ((m/n:Nat):Int)):=(w7 ho hx hy Om).cast (by
  rw[Int.tdiv_eq_ediv_of_nonneg Om, ←Int.natCast_ediv];have h1:=Nat.div_le_self m n;generalize m/n=q at*;rw[IntWalk.i64_in _ ⟨Om,Om⟩])
theorem VS {s t:TypeId} {D:TypeDesc} {k:IntKind} (ho:o.op=.convert s t x) (hs:P.underlying s=some D) (ht:P.underlying t=some (.int .i64)) (hx:ev ρ x=some (.int k (m:Nat))) (h:m≤9223372036854775807):aG P ρ o (.int .i64 ((m:Nat):Int)):=(iW ho hs ht hx).cast (by rw[IntWalk.i64_in _ ⟨Om,Om⟩])
theorem VT {s t:TypeId} {D:TypeDesc} {k:IntKind} (ho:o.op=.convert s t x) (hs:P.underlying s=some D) (ht:P.underlying t=some (.int .i64)) (hx:ev ρ x=some (.int k a)) (h: -9223372036854775808≤a∧a≤9223372036854775807):aG P ρ o (.int .i64 a):=(iW ho hs ht hx).cast (by rw[IntWalk.i64_in _ h])
theorem VU (ho:o.op=.binOp .add ty x y bN) (hx:ev ρ x=some (.int .u8 (m:Nat))) (hy:ev ρ y=some (.int .u8 (n:Nat))) (h:m+n≤255):aG P ρ o (.int .u8 ((m+n:Nat):Int)):=(oK ho hx hy).cast (by
  have e:((m:Nat):Int)+((n:Nat):Int)=((m+n:Nat):Int):=Oi;rw[e,IntWalk.u8_in _ ⟨Om,Om⟩])
theorem VV (ho:o.op=.binOp .mul ty x y bN) (hx:ev ρ x=some (.int .u8 (m:Nat))) (hy:ev ρ y=some (.int .u8 (n:Nat))) (h:m*n≤255):aG P ρ o (.int .u8 ((m*n:Nat):Int)):=(vu ho hx hy).cast (by
  have e:((m:Nat):Int)*((n:Nat):Int)=((m*n:Nat):Int):=Oi;rw[e,IntWalk.u8_in _ ⟨Om,Om⟩])
theorem VW (ho:o.op=.binOp .sub ty x y bN) (hx:ev ρ x=some (.int .u8 (m:Nat))) (hy:ev ρ y=some (.int .u8 (n:Nat))) (h:n≤m∧m≤255):aG P ρ o (.int .u8 ((m-n:Nat):Int)):=(l8 ho hx hy).cast (by
  have e:((m:Nat):Int)-((n:Nat):Int)=((m-n:Nat):Int):=Om;rw[e,IntWalk.u8_in _ ⟨Om,Om⟩])
theorem VX (ho:o.op=.binOp .and ty x y bN) (hx:ev ρ x=some (.int .u8 (m:Nat))) (hy:ev ρ y=some (.int .u8 (n:Nat))) (h:m<256∨n<256) (hm:m<256) (hn:n<256):aG P ρ o (.int .u8 ((m&&&n:Nat):Int)):=(uI ho hx hy).cast (by
  rw[BitVec.toNat_and,show IntKind.bits .u8=8 from rfl,eM _ _ hm,eM _ _ hn,IntWalk.u8_in _ ⟨Om,?_⟩];have h1:=@Nat.and_le_left m n;omega)
theorem Be (ho:o.op=.binOp .or ty x y bN) (hx:ev ρ x=some (.int .u8 (m:Nat))) (hy:ev ρ y=some (.int .u8 (n:Nat))) (hm:m<256) (hn:n<256):aG P ρ o (.int .u8 ((m|||n:Nat):Int)):=(C1 ho hx hy).cast (by
  rw[BitVec.toNat_or,show IntKind.bits .u8=8 from rfl,eM _ _ Om,eM _ _ Om,IntWalk.u8_in _ ⟨Om,?_⟩];have h1:=Nat.or_lt_two_pow (n:=8) (x:=m) (y:=n) Om Om;omega)
theorem VY (ho:o.op=.binOp .shr ty x y bN) (hx:ev ρ x=some (.int .u8 (m:Nat))) (hy:ev ρ y=some (.int k' (n:Nat))) (h:m<256):aG P ρ o (.int .u8 ((m/2^n:Nat):Int)):=(rA ho hx hy).cast (by rw[mW _ _ _ (by simpa [IntKind.bits] using h)])
theorem VZ (ho:o.op=.binOp .shl ty x y bN) (hx:ev ρ x=some (.int .u8 (m:Nat))) (hy:ev ρ y=some (.int k' (n:Nat))) (hn:n≤8) (h:m*2^n≤255):aG P ρ o (.int .u8 ((m*2^n:Nat):Int)):=(lK ho hx hy).cast (by
  have e:((m:Nat):Int)*2^(min n (IntKind.bits .u8))=((m*2^n:Nat):Int):=by
    rw[Nat.min_eq_left (by simpa [IntKind.bits] using hn)];simp
  rw[e,IntWalk.u8_in _ ⟨Om,Om⟩])
theorem V1 (ho:o.op=.binOp .quo ty x y bN) (hx:ev ρ x=some (.int .u8 (m:Nat))) (hy:ev ρ y=some (.int .u8 (n:Nat))) (h0:0<n) (hm:m≤255):aG P ρ o (.int .u8 ((m/n:Nat):Int)):=(w7 ho hx hy Om).cast (by
  rw[Int.tdiv_eq_ediv_of_nonneg Om, ←Int.natCast_ediv];have h1:=Nat.div_le_self m n;generalize m/n=q at*;rw[IntWalk.u8_in _ ⟨Om,Om⟩])
theorem abz {s t:TypeId} {D:TypeDesc} {k:IntKind} (ho:o.op=.convert s t x) (hs:P.underlying s=some D) (ht:P.underlying t=some (.int .u8)) (hx:ev ρ x=some (.int k (m:Nat))) (h:m≤255):aG P ρ o (.int .u8 ((m:Nat):Int)):=(iW ho hs ht hx).cast (by rw[IntWalk.u8_in _ ⟨Om,Om⟩])
theorem xc (a:Int):IntKind.u8.wrap a=a%256:=by simp[IntKind.wrap,IntKind.bits,IntKind.signed]
theorem V2 (ho:o.op=.binOp .add ty x y bN) (hx:ev ρ x=some (.int .u8 (m:Nat))) (hy:ev ρ y=some (.int .u8 (n:Nat))):aG P ρ o (.int .u8 (((m+n)%256:Nat):Int)):=(oK ho hx hy).cast (by rw[xc];simp)
theorem V3 (ho:o.op=.binOp .sub ty x y bN) (hx:ev ρ x=some (.int .u8 (m:Nat))) (hy:ev ρ y=some (.int .u8 (n:Nat))) (h:n≤256):aG P ρ o (.int .u8 (((m+256-n)%256:Nat):Int)):=(l8 ho hx hy).cast (by rw[xc];congr 1;omega)
theorem abA {s t:TypeId} {D:TypeDesc} {k:IntKind} (ho:o.op=.convert s t x) (hs:P.underlying s=some D) (ht:P.underlying t=some (.int .u8)) (hx:ev ρ x=some (.int k (m:Nat))):aG P ρ o (.int .u8 ((m%256:Nat):Int)):=(iW ho hs ht hx).cast (by rw[xc];simp)
theorem M3 (ho:o.op=.binOp .add ty x y bN) (hx:ev ρ x=some (.int .u16 (m:Nat))) (hy:ev ρ y=some (.int .u16 (n:Nat))) (h:m+n≤65535):aG P ρ o (.int .u16 ((m+n:Nat):Int)):=(oK ho hx hy).cast (by
  have e:((m:Nat):Int)+((n:Nat):Int)=((m+n:Nat):Int):=Oi;rw[e,IntWalk.u16_in _ ⟨Om,Om⟩])
theorem M4 (ho:o.op=.binOp .sub ty x y bN) (hx:ev ρ x=some (.int .u16 (m:Nat))) (hy:ev ρ y=some (.int .u16 (n:Nat))) (h:n≤m∧m≤65535):aG P ρ o (.int .u16 ((m-n:Nat):Int)):=(l8 ho hx hy).cast (by
  have e:((m:Nat):Int)-((n:Nat):Int)=((m-n:Nat):Int):=Om;rw[e,IntWalk.u16_in _ ⟨Om,Om⟩])
theorem M5 (ho:o.op=.binOp .and ty x y bN) (hx:ev ρ x=some (.int .u16 (m:Nat))) (hy:ev ρ y=some (.int .u16 (n:Nat))) (h:m<65536∨n<65536) (hm:m<65536) (hn:n<65536):aG P ρ o (.int .u16 ((m&&&n:Nat):Int)):=(uI ho hx hy).cast (by
  rw[BitVec.toNat_and,show IntKind.bits .u16=16 from rfl,eM _ _ hm,eM _ _ hn,IntWalk.u16_in _ ⟨Om,?_⟩];have h1:=@Nat.and_le_left m n;omega)
theorem V4 (ho:o.op=.binOp .or ty x y bN) (hx:ev ρ x=some (.int .u16 (m:Nat))) (hy:ev ρ y=some (.int .u16 (n:Nat))) (hm:m<65536) (hn:n<65536):aG P ρ o (.int .u16 ((m|||n:Nat):Int)):=(C1 ho hx hy).cast (by
  rw[BitVec.toNat_or,show IntKind.bits .u16=16 from rfl,eM _ _ Om,eM _ _ Om,IntWalk.u16_in _ ⟨Om,?_⟩];have h1:=Nat.or_lt_two_pow (n:=16) (x:=m) (y:=n) Om Om;omega)
theorem M6 (ho:o.op=.binOp .shr ty x y bN) (hx:ev ρ x=some (.int .u16 (m:Nat))) (hy:ev ρ y=some (.int k' (n:Nat))) (h:m<65536):aG P ρ o (.int .u16 ((m/2^n:Nat):Int)):=(rA ho hx hy).cast (by rw[mW _ _ _ (by simpa [IntKind.bits] using h)])
theorem M7 (ho:o.op=.binOp .shl ty x y bN) (hx:ev ρ x=some (.int .u16 (m:Nat))) (hy:ev ρ y=some (.int k' (n:Nat))) (hn:n≤16) (h:m*2^n≤65535):aG P ρ o (.int .u16 ((m*2^n:Nat):Int)):=(lK ho hx hy).cast (by
  have e:((m:Nat):Int)*2^(min n (IntKind.bits .u16))=((m*2^n:Nat):Int):=by
    rw[Nat.min_eq_left (by simpa [IntKind.bits] using hn)];simp
  rw[e,IntWalk.u16_in _ ⟨Om,Om⟩])
theorem V5 {s t:TypeId} {D:TypeDesc} {k:IntKind} (ho:o.op=.convert s t x) (hs:P.underlying s=some D) (ht:P.underlying t=some (.int .u16)) (hx:ev ρ x=some (.int k (m:Nat))) (h:m≤65535):aG P ρ o (.int .u16 ((m:Nat):Int)):=(iW ho hs ht hx).cast (by rw[IntWalk.u16_in _ ⟨Om,Om⟩])
theorem Jd {s t:TypeId} {D:TypeDesc} {k:IntKind} (ho:o.op=.convert s t x) (hs:P.underlying s=some D) (ht:P.underlying t=some (.int .u16)) (hx:ev ρ x=some (.int k a)) (h:0≤a∧a≤65535):aG P ρ o (.int .u16 a):=(iW ho hs ht hx).cast (by rw[IntWalk.u16_in _ h])
theorem zM (a:Int):IntKind.u16.wrap a=a%65536:=by simp[IntKind.wrap,IntKind.bits,IntKind.signed]
theorem M8 (ho:o.op=.binOp .shl ty x y bN) (hx:ev ρ x=some (.int .u16 (m:Nat))) (hy:ev ρ y=some (.int k' (n:Nat))):aG P ρ o (.int .u16 ((m*2^n%65536:Nat):Int)):=(lK ho hx hy).cast (by
  rw[zM,show IntKind.bits .u16=16 from rfl];congr 1;rcases Nat.le_total n 16 with h1|h1
  · grind
  · rw[Nat.min_eq_right h1];have e:m*2^n=(m*2^(n-16))*65536:=by rw[Nat.mul_assoc,show(65536:Nat)=2^16 from rfl, ←Nat.pow_add];congr 2;omega
    omega)
theorem V6 {s t:TypeId} {D:TypeDesc} {k:IntKind} (ho:o.op=.convert s t x) (hs:P.underlying s=some D) (ht:P.underlying t=some (.int .u16)) (hx:ev ρ x=some (.int k (m:Nat))):aG P ρ o (.int .u16 ((m%65536:Nat):Int)):=(iW ho hs ht hx).cast (by rw[zM];simp)
theorem M9 (ho:o.op=.binOp .add ty x y bN) (hx:ev ρ x=some (.int .u32 (m:Nat))) (hy:ev ρ y=some (.int .u32 (n:Nat))) (h:m+n≤4294967295):aG P ρ o (.int .u32 ((m+n:Nat):Int)):=(oK ho hx hy).cast (by
  have e:((m:Nat):Int)+((n:Nat):Int)=((m+n:Nat):Int):=Oi;rw[e,IntWalk.u32_in _ ⟨Om,Om⟩])
theorem M' (ho:o.op=.binOp .mul ty x y bN) (hx:ev ρ x=some (.int .u32 (m:Nat))) (hy:ev ρ y=some (.int .u32 (n:Nat))) (h:m*n≤4294967295):aG P ρ o (.int .u32 ((m*n:Nat):Int)):=(vu ho hx hy).cast (by
  have e:((m:Nat):Int)*((n:Nat):Int)=((m*n:Nat):Int):=Oi;rw[e,IntWalk.u32_in _ ⟨Om,Om⟩])
theorem Na (ho:o.op=.binOp .sub ty x y bN) (hx:ev ρ x=some (.int .u32 (m:Nat))) (hy:ev ρ y=some (.int .u32 (n:Nat))) (h:n≤m∧m≤4294967295):aG P ρ o (.int .u32 ((m-n:Nat):Int)):=(l8 ho hx hy).cast (by
  have e:((m:Nat):Int)-((n:Nat):Int)=((m-n:Nat):Int):=Om;rw[e,IntWalk.u32_in _ ⟨Om,Om⟩])
theorem Nb (ho:o.op=.binOp .and ty x y bN) (hx:ev ρ x=some (.int .u32 (m:Nat))) (hy:ev ρ y=some (.int .u32 (n:Nat))) (h:m<4294967296∨n<4294967296) (hm:m<4294967296) (hn:n<4294967296):aG P ρ o (.int .u32 ((m&&&n:Nat):Int)):=(uI ho hx hy).cast (by
  rw[BitVec.toNat_and,show IntKind.bits .u32=32 from rfl,eM _ _ hm,eM _ _ hn,IntWalk.u32_in _ ⟨Om,?_⟩];have h1:=@Nat.and_le_left m n;omega)
theorem du (ho:o.op=.binOp .or ty x y bN) (hx:ev ρ x=some (.int .u32 (m:Nat))) (hy:ev ρ y=some (.int .u32 (n:Nat))) (hm:m<4294967296) (hn:n<4294967296):aG P ρ o (.int .u32 ((m|||n:Nat):Int)):=(C1 ho hx hy).cast (by
  rw[BitVec.toNat_or,show IntKind.bits .u32=32 from rfl,eM _ _ Om,eM _ _ Om,IntWalk.u32_in _ ⟨Om,?_⟩];have h1:=Nat.or_lt_two_pow (n:=32) (x:=m) (y:=n) Om Om;omega)
theorem Nc (ho:o.op=.binOp .shr ty x y bN) (hx:ev ρ x=some (.int .u32 (m:Nat))) (hy:ev ρ y=some (.int k' (n:Nat))) (h:m<4294967296):aG P ρ o (.int .u32 ((m/2^n:Nat):Int)):=(rA ho hx hy).cast (by rw[mW _ _ _ (by simpa [IntKind.bits] using h)])
theorem Nd (ho:o.op=.binOp .shl ty x y bN) (hx:ev ρ x=some (.int .u32 (m:Nat))) (hy:ev ρ y=some (.int k' (n:Nat))) (hn:n≤32) (h:m*2^n≤4294967295):aG P ρ o (.int .u32 ((m*2^n:Nat):Int)):=(lK ho hx hy).cast (by
  have e:((m:Nat):Int)*2^(min n (IntKind.bits .u32))=((m*2^n:Nat):Int):=by
    rw[Nat.min_eq_left (by simpa [IntKind.bits] using hn)];simp
  rw[e,IntWalk.u32_in _ ⟨Om,Om⟩])
theorem Nf (ho:o.op=.binOp .quo ty x y bN) (hx:ev ρ x=some (.int .u32 (m:Nat))) (hy:ev ρ y=some (.int .u32 (n:Nat))) (h0:0<n) (hm:m≤4294967295):aG P ρ o (.int .u32 ((m/n:Nat):Int)):=(w7 ho hx hy Om).cast (by
  rw[Int.tdiv_eq_ediv_of_nonneg Om, ←Int.natCast_ediv];have h1:=Nat.div_le_self m n;generalize m/n=q at*;rw[IntWalk.u32_in _ ⟨Om,Om⟩])
theorem V7 {s t:TypeId} {D:TypeDesc} {k:IntKind} (ho:o.op=.convert s t x) (hs:P.underlying s=some D) (ht:P.underlying t=some (.int .u32)) (hx:ev ρ x=some (.int k (m:Nat))) (h:m≤4294967295):aG P ρ o (.int .u32 ((m:Nat):Int)):=(iW ho hs ht hx).cast (by rw[IntWalk.u32_in _ ⟨Om,Om⟩])
theorem Je {s t:TypeId} {D:TypeDesc} {k:IntKind} (ho:o.op=.convert s t x) (hs:P.underlying s=some D) (ht:P.underlying t=some (.int .u32)) (hx:ev ρ x=some (.int k a)) (h:0≤a∧a≤4294967295):aG P ρ o (.int .u32 a):=(iW ho hs ht hx).cast (by rw[IntWalk.u32_in _ h])
theorem qb (a:Int):IntKind.u32.wrap a=a%4294967296:=by simp[IntKind.wrap,IntKind.bits,IntKind.signed]
theorem Ng (ho:o.op=.binOp .mul ty x y bN) (hx:ev ρ x=some (.int .u32 (m:Nat))) (hy:ev ρ y=some (.int .u32 (n:Nat))):aG P ρ o (.int .u32 (((m*n)%4294967296:Nat):Int)):=(vu ho hx hy).cast (by rw[qb];simp)
theorem Nh (ho:o.op=.binOp .sub ty x y bN) (hx:ev ρ x=some (.int .u32 (m:Nat))) (hy:ev ρ y=some (.int .u32 (n:Nat))) (h:n≤4294967296):aG P ρ o (.int .u32 (((m+4294967296-n)%4294967296:Nat):Int)):=(l8 ho hx hy).cast (by rw[qb];congr 1;omega)
theorem Ni (ho:o.op=.binOp .shl ty x y bN) (hx:ev ρ x=some (.int .u32 (m:Nat))) (hy:ev ρ y=some (.int k' (n:Nat))):aG P ρ o (.int .u32 ((m*2^n%4294967296:Nat):Int)):=(lK ho hx hy).cast (by
  rw[qb,show IntKind.bits .u32=32 from rfl];congr 1;rcases Nat.le_total n 32 with h1|h1
  · grind
  · rw[Nat.min_eq_right h1];have e:m*2^n=(m*2^(n-32))*4294967296:=by rw[Nat.mul_assoc,show(4294967296:Nat)=2^32 from rfl, ←Nat.pow_add];congr 2;omega
    omega)
theorem V8 {s t:TypeId} {D:TypeDesc} {k:IntKind} (ho:o.op=.convert s t x) (hs:P.underlying s=some D) (ht:P.underlying t=some (.int .u32)) (hx:ev ρ x=some (.int k (m:Nat))):aG P ρ o (.int .u32 ((m%4294967296:Nat):Int)):=(iW ho hs ht hx).cast (by rw[qb];simp)
theorem Nj (ho:o.op=.binOp .add ty x y bN) (hx:ev ρ x=some (.int .u64 (m:Nat))) (hy:ev ρ y=some (.int .u64 (n:Nat))) (h:m+n≤18446744073709551615):aG P ρ o (.int .u64 ((m+n:Nat):Int)):=(oK ho hx hy).cast (by
  have e:((m:Nat):Int)+((n:Nat):Int)=((m+n:Nat):Int):=Oi;rw[e,IntWalk.u64_in _ ⟨Om,Om⟩])
theorem Nk (ho:o.op=.binOp .mul ty x y bN) (hx:ev ρ x=some (.int .u64 (m:Nat))) (hy:ev ρ y=some (.int .u64 (n:Nat))) (h:m*n≤18446744073709551615):aG P ρ o (.int .u64 ((m*n:Nat):Int)):=(vu ho hx hy).cast (by
  have e:((m:Nat):Int)*((n:Nat):Int)=((m*n:Nat):Int):=Oi;rw[e,IntWalk.u64_in _ ⟨Om,Om⟩])
theorem Nl (ho:o.op=.binOp .sub ty x y bN) (hx:ev ρ x=some (.int .u64 (m:Nat))) (hy:ev ρ y=some (.int .u64 (n:Nat))) (h:n≤m∧m≤18446744073709551615):aG P ρ o (.int .u64 ((m-n:Nat):Int)):=(l8 ho hx hy).cast (by
  have e:((m:Nat):Int)-((n:Nat):Int)=((m-n:Nat):Int):=Om;rw[e,IntWalk.u64_in _ ⟨Om,Om⟩])
theorem Nm (ho:o.op=.binOp .and ty x y bN) (hx:ev ρ x=some (.int .u64 (m:Nat))) (hy:ev ρ y=some (.int .u64 (n:Nat))) (h:m<18446744073709551616∨n<18446744073709551616) (hm:m<18446744073709551616) (hn:n<18446744073709551616):aG P ρ o (.int .u64 ((m&&&n:Nat):Int)):=(uI ho hx hy).cast (by
  rw[BitVec.toNat_and,show IntKind.bits .u64=64 from rfl,eM _ _ hm,eM _ _ hn,IntWalk.u64_in _ ⟨Om,?_⟩];have h1:=@Nat.and_le_left m n;omega)
theorem mX (ho:o.op=.binOp .or ty x y bN) (hx:ev ρ x=some (.int .u64 (m:Nat))) (hy:ev ρ y=some (.int .u64 (n:Nat))) (hm:m<18446744073709551616) (hn:n<18446744073709551616):aG P ρ o (.int .u64 ((m|||n:Nat):Int)):=(C1 ho hx hy).cast (by
  rw[BitVec.toNat_or,show IntKind.bits .u64=64 from rfl,eM _ _ Om,eM _ _ Om,IntWalk.u64_in _ ⟨Om,?_⟩];have h1:=Nat.or_lt_two_pow (n:=64) (x:=m) (y:=n) Om Om;omega)
theorem Nn (ho:o.op=.binOp .shr ty x y bN) (hx:ev ρ x=some (.int .u64 (m:Nat))) (hy:ev ρ y=some (.int k' (n:Nat))) (h:m<18446744073709551616):aG P ρ o (.int .u64 ((m/2^n:Nat):Int)):=(rA ho hx hy).cast (by rw[mW _ _ _ (by simpa [IntKind.bits] using h)])
theorem No (ho:o.op=.binOp .shl ty x y bN) (hx:ev ρ x=some (.int .u64 (m:Nat))) (hy:ev ρ y=some (.int k' (n:Nat))) (hn:n≤64) (h:m*2^n≤18446744073709551615):aG P ρ o (.int .u64 ((m*2^n:Nat):Int)):=(lK ho hx hy).cast (by
  have e:((m:Nat):Int)*2^(min n (IntKind.bits .u64))=((m*2^n:Nat):Int):=by
    rw[Nat.min_eq_left (by simpa [IntKind.bits] using hn)];simp
  rw[e,IntWalk.u64_in _ ⟨Om,Om⟩])
theorem Np (ho:o.op=.binOp .quo ty x y bN) (hx:ev ρ x=some (.int .u64 (m:Nat))) (hy:ev ρ y=some (.int .u64 (n:Nat))) (h0:0<n) (hm:m≤18446744073709551615):aG P ρ o (.int .u64 ((m/n:Nat):Int)):=(w7 ho hx hy Om).cast (by
  rw[Int.tdiv_eq_ediv_of_nonneg Om, ←Int.natCast_ediv];have h1:=Nat.div_le_self m n;generalize m/n=q at*;rw[IntWalk.u64_in _ ⟨Om,Om⟩])
theorem V' {s t:TypeId} {D:TypeDesc} {k:IntKind} (ho:o.op=.convert s t x) (hs:P.underlying s=some D) (ht:P.underlying t=some (.int .u64)) (hx:ev ρ x=some (.int k (m:Nat))) (h:m≤18446744073709551615):aG P ρ o (.int .u64 ((m:Nat):Int)):=(iW ho hs ht hx).cast (by rw[IntWalk.u64_in _ ⟨Om,Om⟩])
theorem Kz (a:Int):IntKind.u64.wrap a=a%18446744073709551616:=by simp[IntKind.wrap,IntKind.bits,IntKind.signed]
theorem Nq (ho:o.op=.binOp .shl ty x y bN) (hx:ev ρ x=some (.int .u64 (m:Nat))) (hy:ev ρ y=some (.int k' (n:Nat))):aG P ρ o (.int .u64 ((m*2^n%18446744073709551616:Nat):Int)):=(lK ho hx hy).cast (by
  rw[Kz,show IntKind.bits .u64=64 from rfl];congr 1;rcases Nat.le_total n 64 with h1|h1
  · grind
  · rw[Nat.min_eq_right h1];have e:m*2^n=(m*2^(n-64))*18446744073709551616:=by rw[Nat.mul_assoc,show(18446744073709551616:Nat)=2^64 from rfl, ←Nat.pow_add];congr 2;omega
    omega)
theorem C5 (ho:o.op=.binOp .andNot ty x y bN) (hx:ev ρ x=some (.int .u64 (m:Nat))) (hy:ev ρ y=some (.int .u64 (n:Nat))) (hm:m<18446744073709551616) (hn:n<18446744073709551616):aG P ρ o (.int .u64 ((m&&&(18446744073709551615-n):Nat):Int)):=(Ky ho hx hy).cast (by
  rw[BitVec.toNat_and,BitVec.toNat_not,show IntKind.bits .u64=64 from rfl,eM _ _ hm,eM _ _ hn,show 2^64-1-n=18446744073709551615-n from by omega,IntWalk.u64_in _ ⟨Om,?_⟩];have h1:=@Nat.and_le_left m (18446744073709551615-n);omega)
end
def fieldOff (P:Program) (s f:Nat):Option Nat:=
  match P.underlying s with
  |some (.struct fs)=>match fs[f]? with
    |some fl=>match P.info? fl.type with
      |some i=>if i.size=0 then none else some fl.offset
      |none=>none
    |none=>none
  |_=>none
def eV (P:Program) (t:Nat):Option Nat:=(P.info? t).map (·.size)
def cF (P:Program) (t:Nat):Option Nat:=
  match P.underlying t with
  |some (.slice e)=>eV P e
  |_=>none
def gP (P:Program) (t:Nat):Option (Nat × Nat):=
  match P.underlying t with
  |some (.array n e)=>(eV P e).map fun s=>(n,s)
  |_=>none
def l9 (P:Program) (t:Nat):Option Bool:=
  match P.underlying t with
  |some (.struct _)=>some true
  |some (.array _ _)=>some true
  |some _=>some false
  |none=>none
def vv (P:Program) (t:Nat):Option (List Value):=(P.info? t).bind fun i=>i.zero.map fun z=>z.cells.toList
def nthS:Nat→List au→Option au
  |_,[]=>none
  |0,s::_=>some s
  |n+1,_::l=>nthS n l
def setS:Nat→au→List au→List au
  |_,_,[]=>[]
  |0,s,_::l=>s::l
  |n+1,s,t::l=>t::setS n s l
theorem dw:∀(i:Nat) (l:List au) (s:au),nthS i l=some s→s ∈ l
  |_,[],_,h=>by simp[nthS] at h
  |0,t::l,s,h=>by simp[nthS] at h;simp[h]
  |n+1,t::l,s,h=>List.mem_cons_of_mem _ (dw n l s h)
theorem j6 {P:Program} {t:Nat} {i:TypeInfo} (h:P.info? t=some i) (w:World):(typeInfo t).run P w=.ok i w:=by
  simp[typeInfo,h]
theorem cC {P:Program} {t n:Nat} (h:eV P t=some n) (w:World):(sizeOf t).run P w=.ok n w:=by
  unfold eV at h;cases hi:P.info? t with
  |none=>simp[hi] at h
  |some i=>simp[hi] at h;simp[sizeOf,j6 hi,h]
theorem aK {P:Program} {t:Nat} {D:TypeDesc} (h:P.underlying t=some D) (w:World):(underlying t).run P w=.ok D w:=by
  simp[underlying,h]
theorem qc {P:Program} {t:Nat} {b:Bool} (h:l9 P t=some b) (w:World):(isAgg t).run P w=.ok b w:=by
  unfold l9 at h;cases hu:P.underlying t with
  |none=>simp[hu] at h
  |some D=>cases D<;>simp[hu] at h<;>simp[isAgg,aK hu,h]
theorem dd (b q n:Nat):(⟨b,q,none⟩:Addr).add n=⟨b,q+n,none⟩:=by unfold Addr.add;split<;>simp_all
section
variable {P:Program} {K:Kx} {Q:Exit→Act→World→Prop} {ρ:aC} {l r:List au} {o:Oper} {v:Value} {x y z:Operand} {t s f sz n m len cap b q j:Nat} {k:IntKind}
theorem ai0 (ho:o.op=.fieldAddr s x f) (hx:ev ρ x=some (.pointer (some ⟨b,q,none⟩))) (hP:fieldOff P s f=some n):aG P ρ o (.pointer (some ⟨b,q+n,none⟩)):=fun ac ha w=>by
  unfold fieldOff at hP;cases hu:P.underlying s with
  |none=>simp[hu] at hP
  |some D=>
    cases D<;>simp[hu] at hP;rename_i fs;cases hf:fs[f]? with
    |none=>simp[hf] at hP
    |some fl=>
      simp only[hf] at hP;cases hi:P.info? fl.type with
      |none=>simp[hi] at hP
      |some i=>
        simp only[hi] at hP;split at hP
        · cases hP
        · rename_i v9;have hn:=Option.some.inj hP;subst hn;simp[execOp,ho,bf ha hx,Instr.fieldAt,aK hu,hf,Instr.sureAddr,fieldPlace,sizeOf,j6 hi,v9,dd]
theorem eQ {q':Nat} (ho:o.op=.indexAddr t x y) (hx:ev ρ x=some (.slice (some ⟨b,q,none⟩) len cap)) (hy:ev ρ y=some (.int k (m:Nat))) (hP:cF P t=some sz) (h:m<len) (hq:q+m*sz=q'):aG P ρ o (.pointer (some ⟨b,q',none⟩)):=by
  subst hq;intro ac ha w;unfold cF at hP;cases hu:P.underlying t with
  |none=>simp[hu] at hP
  |some D=>
    cases D<;>simp[hu] at hP;simp[execOp,ho,bf ha hx,bf ha hy,Instr.indexAt,asIntOf,aK hu,h,cC hP,dd]
theorem YL {q':Nat} (ho:o.op=.indexAddr t x y) (hx:ev ρ x=some (.slice (some ⟨b,q,none⟩) len cap)) (hy:ev ρ y=some (.int k (m:Nat))) (hP:cF P t=some 1) (h:m<len) (hq:q+m=q'):aG P ρ o (.pointer (some ⟨b,q',none⟩)):=
  eQ ho hx hy hP h (by rw[Nat.mul_one];exact hq)
theorem abB {q':Nat} (ho:o.op=.indexAddr t x y) (hx:ev ρ x=some (.pointer (some ⟨b,q,none⟩))) (hy:ev ρ y=some (.int k (m:Nat))) (hP:gP P t=some (n,sz)) (h:m<n) (hq:q+m*sz=q'):aG P ρ o (.pointer (some ⟨b,q',none⟩)):=by
  subst hq;intro ac ha w;unfold gP at hP;cases hu:P.underlying t with
  |none=>simp[hu] at hP
  |some D=>
    cases D<;>simp[hu] at hP;obtain⟨h1,rfl⟩:=hP;simp[execOp,ho,bf ha hx,bf ha hy,Instr.indexAt,asIntOf,aK hu,h,cC h1,dd,Instr.sureAddr]
theorem YM {q':Nat} (ho:o.op=.indexAddr t x y) (hx:ev ρ x=some (.pointer (some ⟨b,q,none⟩))) (hy:ev ρ y=some (.int k (m:Nat))) (hP:gP P t=some (n,1)) (h:m<n) (hq:q+m=q'):aG P ρ o (.pointer (some ⟨b,q',none⟩)):=
  abB ho hx hy hP h (by rw[Nat.mul_one];exact hq)
theorem Jf {s:au} {w:World} (h:s.oh w) (hc:s.cs[j]? =some v) (hq:q=s.o+j):w.cell? ⟨s.b,q,none⟩=some v:=by subst hq;exact h.1 j v hc
theorem zN {w:World} (hP:l9 P t=some false) (hc:w.cell? ⟨b,q,none⟩=some v):(Instr.loadAt t (.pointer (some ⟨b,q,none⟩))).run P w=.ok v w:=by
  simp[Instr.loadAt,Instr.sureAddr,loadVar,qc hP,hc]
theorem cU {sg:au} (i j:Nat) (hs:nthS i l=some sg) (ho:o.op=.load t x) (hx:ev ρ x=some (.pointer (some ⟨sg.b,q,none⟩))) (hP:l9 P t=some false) (hq:q=sg.o+j) (hc:sg.cs[j]? =some v):nN P ρ l r o v:=fun ac w ha gV=>by
  simp[execOp,ho,bf ha hx,zN hP (Jf (gV.hl sg (dw _ _ _ hs)) hc hq)]
theorem nO {sg:au} (i j:Nat) (hs:nthS i r=some sg) (ho:o.op=.load t x) (hx:ev ρ x=some (.pointer (some ⟨sg.b,q,none⟩))) (hP:l9 P t=some false) (hq:q=sg.o+j) (hc:sg.cs[j]? =some v):nN P ρ l r o v:=fun ac w ha gV=>by
  simp[execOp,ho,bf ha hx,zN hP (Jf (gV.hr sg (dw _ _ _ hs)) hc hq)]
theorem Wa {s s':au} (h1:s'.b=s.b) (h2:s'.o=s.o) (h3:s'.cs.length=s.cs.length) (b j:Nat):s'.has b j↔s.has b j:=by unfold au.has;rw[h1,h2,h3]
theorem sQ:∀(i:Nat) (s':au) (l:List au) (u:au),u ∈ setS i s' l→u=s'∨u ∈ l
  |_,_,[],u,h=>by simp[setS] at h
  |0,s',t::l,u,h=>by simp[setS] at h;rcases h with h|h<;>simp[h]
  |n+1,s',t::l,u,h=>by
    simp only[setS,List.mem_cons] at h;rcases h with h|h
    · simp[h]
    · rcases sQ n s' l u h with h'|h'<;>simp[h']
theorem zO:∀(i:Nat) (s s':au) (l:List au) (u:au),nthS i l=some s→l.Pairwise au.apart→u ∈ setS i s' l→u=s'∨(u ∈ l∧u.apart s)
  |_,_,_,[],u,_,_,h=>by simp[setS] at h
  |0,s,s',t::l,u,hn,hp,h=>by
    simp[nthS] at hn;subst hn;simp only[setS,List.mem_cons] at h;rcases h with h|h
    · exact .inl h
    · exact .inr ⟨List.mem_cons_of_mem _ h,(List.rel_of_pairwise_cons hp h).symm⟩
  |n+1,s,s',t::l,u,hn,hp,h=>by
    simp only[nthS] at hn;simp only[setS,List.mem_cons] at h;rcases h with h|h
    · subst h;exact .inr ⟨List.mem_cons_self,List.rel_of_pairwise_cons hp (dw n l s hn)⟩
    · rcases zO n s s' l u hn (List.Pairwise.of_cons hp) h with h'|h'
      · exact .inl h'
      · grind
theorem Jg:∀(i:Nat) (s s':au) (l:List au),nthS i l=some s→(∀b j,s'.has b j↔s.has b j)→l.Pairwise au.apart→(setS i s' l).Pairwise au.apart
  |_,_,_,[],_,_,_=>by simp[setS]
  |0,s,s',t::l,hn,hh,hp=>by
    simp[nthS] at hn;subst hn;simp only[setS];refine List.Pairwise.cons (fun u hu b j h1 h2=>?_) (List.Pairwise.of_cons hp);exact List.rel_of_pairwise_cons hp hu b j ((hh b j).1 h1) h2
  |n+1,s,s',t::l,hn,hh,hp=>by
    simp only[nthS] at hn;simp only[setS];refine List.Pairwise.cons (fun u hu b j h1 h2=>?_) (Jg n s s' l hn hh (List.Pairwise.of_cons hp));rcases sQ n s' l u hu with h|h
    · subst h;exact List.rel_of_pairwise_cons hp (dw n l s hn) b j h1 ((hh b j).1 h2)
    · exact List.rel_of_pairwise_cons hp h b j h1 h2
theorem At.store {a:Act} {w:World} {sg:au} {i:Nat} (h:At K ρ l r a w) (hs:nthS i l=some sg) (hj:j<sg.cs.length) (v:Value):
    At K ρ (setS i ⟨sg.b,sg.o,sg.cs.set j v,sg.sh⟩ l) r a (w.setCell ⟨sg.b,sg.o+j,none⟩ v):=by
  have hm:=dw _ _ _ hs;have ai1:sg.has sg.b (sg.o+j):=⟨rfl,Om,Om⟩;have hh:∀b j',(⟨sg.b,sg.o,sg.cs.set j v,sg.sh⟩:au).has b j'↔sg.has b j':=Wa rfl rfl Oi;have hk:fw [sg] w (w.setCell ⟨sg.b,sg.o+j,none⟩ v):=fw.setCell w v ⟨sg,Oi,ai1⟩;have jz:=h.st.hl sg hm;have hold:∀u:au,u.oh w→u.apart sg→u.oh (w.setCell ⟨sg.b,sg.o+j,none⟩ v):=fun u hu wa=>by
    refine⟨fun j' v' Mz=>?_,fun j' UX=>?_,fun x hx=>?_⟩
    · rw[World.cell?_setCell_other]
      · exact hu.1 j' v' Mz
      · intro e;injection e with e1 e2;have eU:j'<u.cs.length:=by
          grind
        exact wa sg.b (sg.o+j) ⟨e1.symm,Om,Om⟩ ai1
    · rw[World.frozen?_setCell];exact hu.2.1 j' UX
    · exact hk.shape (hu.2.2 x hx)
  have asz:(⟨sg.b,sg.o,sg.cs.set j v,sg.sh⟩:au).oh (w.setCell ⟨sg.b,sg.o+j,none⟩ v):=by
    refine⟨fun j' v' Mz=>?_,fun j' UX=>?_,fun x hx=>hk.shape (jz.2.2 x hx)⟩
    · simp only[List.getElem?_set] at Mz;by_cases e:j=j'
      · subst e;simp[hj] at Mz;subst Mz;exact World.cell?_setCell_same w _ v (jz.1 j (sg.cs[j]) (by simp[hj]))
      · rw[if_neg e] at Mz;show World.cell? _ ⟨sg.b,sg.o+j',none⟩=_;rw[World.cell?_setCell_other]
        · exact jz.1 j' v' Mz
        · grind
    · show World.frozen? _ ⟨sg.b,sg.o+j',none⟩=_;rw[World.frozen?_setCell];exact jz.2.1 j' (by simpa using UX)
  refine⟨h.size,h.defers,h.fr,h.keeps.trans' hk ?_,⟨?_,?_,Jg i sg _ l hs hh h.st.pw,?_⟩,?_⟩
  · intro s hs' b j' hb;rw[List.mem_singleton] at hs';subst hs';exact h.own s hm b j' hb
  · intro u hu;rcases zO i sg _ l u hs h.st.pw hu with h'|h'
    · grind
    · exact hold u (h.st.hl u h'.1) h'.2
  · intro u hu;exact hold u (h.st.hr u hu) (h.st.lr sg hm u hu).symm
  · intro u hu t ht;rcases sQ i _ l u hu with h'|h'
    · subst h';intro b j' h1 h2;exact h.st.lr sg hm t ht b j' ((hh b j').1 h1) h2
    · exact h.st.lr u h' t ht
  · intro u hu b j' hb;rcases sQ i _ l u hu with h'|h'
    · subst h';exact h.own sg hm b j' ((hh b j').1 hb)
    · exact h.own u h' b j' hb
theorem vw {a:Addr} {w:World} {u:Value} (hv:v.oneCell'=true) (hc:w.cell? a=some u) (hf:w.frozen? a=false):(store a v).run P w=.ok () (w.setCell a v):=by
  rw[run_store _ _ _ _ _ hv,hc];simp[hf]
theorem KA (hv:v.oneCell'=true):v.cells= #[v]:=by cases v<;>first|rfl|(simp[Value.oneCell'] at hv)
theorem iP {sg:au} (i j:Nat) {gM:List Value} (hs:nthS i l=some sg) (ho:o.op=.store t x y) (hx:ev ρ x=some (.pointer (some ⟨sg.b,q,none⟩))) (hy:ev ρ y=some v) (hP:eV P t=some 1) (hv:v.oneCell'=true)
    (hq:q=sg.o+j) (hj:j<sg.cs.length) (hd:o.dst=none) (hc:sg.cs.set j v=gM):kB P K ρ l r o (fun ρ' l'=>ρ'=ρ∧l'=setS i ⟨sg.b,sg.o,gM,sg.sh⟩ l):=by
  intro a w ha nx Q lY;have hm:=dw _ _ _ hs;have jz:=ha.st.hl sg hm;subst hq;have kS:w.cell? ⟨sg.b,sg.o+j,none⟩=some sg.cs[j]:=jz.1 j _ (by simp[hj]);unfold Oper.wp;have e:(execOp a.eval o).run P w=.ok .skip (w.setCell ⟨sg.b,sg.o+j,none⟩ v):=by
    simp[execOp,ho,bf ha.fr hx,bf ha.fr hy,Instr.storeAt,Instr.sureAddr,storeVar,cC hP,KA hv,storeCells,Addr.add,vw (P:=P) hv kS (jz.2.1 _ hj)]
  rw[e];simp only[Oper.upon,hd,Act.put];exact lY _ _ ⟨ρ,_,⟨rfl,rfl⟩,by rw[←hc];exact ha.store hs hj v⟩
end
def takeOut:Nat→List au→Option (au × List au)
  |_,[]=>none
  |0,s::l=>some (s,l)
  |n+1,t::l=>match takeOut n l with
    |some (s,l')=>some (s,t::l')
    |none=>none
def pickS:List Nat→List au→Option (List au × List au)
  |[],l=>some ([],l)
  |i::is,l=>match takeOut i l with
    |some (s,l1)=>match pickS is l1 with
      |some (p,rest)=>some (s::p,rest)
      |none=>none
    |none=>none
def pickR:List Nat→List au→Option (List au)
  |[],_=>some []
  |i::is,l=>match nthS i l with
    |some s=>match pickR is l with
      |some p=>some (s::p)
      |none=>none
    |none=>none
theorem sR:∀(i:Nat) (l:List au) (s:au) (l':List au),takeOut i l=some (s,l')→l.Perm (s::l')
  |_,[],_,_,h=>by simp[takeOut] at h
  |0,t::l,s,l',h=>by simp[takeOut] at h;obtain⟨rfl,rfl⟩:=h;exact .refl _
  |n+1,t::l,s,l',h=>by
    simp only[takeOut] at h;cases ht:takeOut n l with
    |none=>simp[ht] at h
    |some p=>
      obtain⟨s1,l1⟩:=p;simp[ht] at h;obtain⟨rfl,rfl⟩:=h;exact((sR n l s1 l1 ht).cons t).trans (.swap _ _ _)
theorem iy:∀(is:List Nat) (l p rest:List au),pickS is l=some (p,rest)→l.Perm (p++rest)
  |[],l,p,rest,h=>by simp[pickS] at h;obtain⟨rfl,rfl⟩:=h;exact .refl _
  |i::is,l,p,rest,h=>by
    simp only[pickS] at h;cases ht:takeOut i l with
    |none=>simp[ht] at h
    |some q=>
      obtain⟨s,l1⟩:=q;simp only[ht] at h;cases hp:pickS is l1 with
      |none=>simp[hp] at h
      |some q2=>
        obtain⟨p1,ai2⟩:=q2;simp[hp] at h;obtain⟨rfl,rfl⟩:=h;exact(sR i l s l1 ht).trans ((iy is l1 p1 ai2 hp).cons s)
theorem uJ:∀(is:List Nat) (l p:List au),pickR is l=some p→∀s ∈ p,s ∈ l
  |[],l,p,h,s,hs=>by simp[pickR] at h;subst h;cases hs
  |i::is,l,p,h,s,hs=>by
    simp only[pickR] at h;cases ht:nthS i l with
    |none=>simp[ht] at h
    |some q=>
      simp only[ht] at h;cases hp:pickR is l with
      |none=>simp[hp] at h
      |some p1=>
        simp[hp] at h;subst h;rcases List.mem_cons.1 hs with h'|h'
        · grind [dw]
        · exact uJ is l p1 hp s h'
theorem St.perm {l l2 r:List au} {w:World} (h:St l r w) (hp:l.Perm l2):St l2 r w:=
  ⟨fun s hs=>h.hl s (hp.mem_iff.2 hs),h.hr,(hp.pairwise_iff (fun h=>h.symm)).1 h.pw,fun s hs=>h.lr s (hp.mem_iff.2 hs)⟩
theorem St.left {l l2 r:List au} {w:World} (h:St (l++l2) r w):St l r w:=
  ⟨fun s hs=>h.hl s (List.mem_append_left _ hs),h.hr,(List.pairwise_append.1 h.pw).1,fun s hs=>h.lr s (List.mem_append_left _ hs)⟩
theorem At.perm {K:Kx} {ρ:aC} {l l2 r:List au} {a:Act} {w:World} (h:At K ρ l r a w) (hp:l.Perm l2):At K ρ l2 r a w:=
  ⟨h.size,h.defers,h.fr,h.keeps,h.st.perm hp,fun s hs=>h.own s (hp.mem_iff.2 hs)⟩
theorem At.left {K:Kx} {ρ:aC} {l l2 r:List au} {a:Act} {w:World} (h:At K ρ (l++l2) r a w):At K ρ l r a w:=
  ⟨h.size,h.defers,h.fr,h.keeps,h.st.left,fun s hs=>h.own s (List.mem_append_left _ hs)⟩
theorem At.pick {K:Kx} {ρ:aC} {l p rest r:List au} {a:Act} {w:World} (is:List Nat) (h:At K ρ l r a w) (hp:pickS is l=some (p,rest)):At K ρ p r a w:=
  (h.perm (iy _ _ _ _ hp)).left
def C6 (P:Program) (f:FuncId):Prop:=∃fn,P.funcs[f]? =some fn∧(fn.name== "runtime.NumGoroutine")=false∧fn.body.isNone=false
structure Ends (dx:Value→List au→Prop) (l r:List au) (w:World) (e:Ending) (w':World):Prop where
  mk'::
  out:∃v l',e=.returned v∧dx v l'∧fw l w w'∧St l' r w'∧∀s ∈ l',∀b j:Nat,s.has b j→(∃t ∈ l,t.has b j)∨w.heap.size≤b
structure aI (P:Program) (f:FuncId) (args:List Value) (l r:List au) (dx:Value→List au→Prop):Prop where
  can:C6 P f
  run:∀w,St l r w→Calls P f args.toArray w (Ends dx l r w)
def frArgs:Nat→List Value→aC
  |_,[]=>[]
  |i,v::vs=>(i,v)::frArgs (i+1) vs
theorem zP:∀(vs:List Value) (i t:Nat) (v:Value),look t (frArgs i vs)=some v→i≤t∧vs[t-i]? =some v
  |[],i,t,v,h=>by simp[frArgs,look] at h
  |u::vs,i,t,v,h=>by
    simp only[frArgs,look,cond_eq_ite] at h;by_cases e:Nat.beq i t=true
    · simp_all
    · rw[if_neg e] at h;obtain⟨h1,h2⟩:=zP vs (i+1) t v h;grind
theorem aI.intro {P:Program} {f:FuncId} {fn:Func} {c:Code} {args:List Value} {l r:List au} {dx:Value→List au→Prop} (hf:P.funcs[f]? =some fn) (hb:fn.body=some c) (Nr:(fn.name== "runtime.NumGoroutine")=false) (hn:args.length≤fn.ntmps)
    (h:∀w0,G P ⟨fn.ntmps,l,w0⟩ (bodyPost P fn (Ends dx l r w0)) c (frArgs 0 args) l r):aI P f args l r dx:=by
  refine⟨⟨fn,hf,Nr,by simp[hb]⟩,fun w gV=>calls_of_wp hf hb (h w _ w ⟨?_,rfl,?_,.refl _ _,gV,fun s hs b j hh=>.inl ⟨s,hs,hh⟩⟩)⟩
  · simp;omega
  · intro t v ht;obtain⟨_,h2⟩:=zP args 0 t v ht;grind
theorem aI.mono {P:Program} {f:FuncId} {args:List Value} {l r:List au} {dx YN:Value→List au→Prop} (h:aI P f args l r dx) (hp:∀v l',dx v l'→YN v l'):aI P f args l r YN:=
  ⟨h.can,fun w gV=>(h.run w gV).mono fun e w' ⟨v,l',h1,h2,h3⟩=>⟨v,l',h1,hp _ _ h2,h3⟩⟩
def evs (ρ:aC):List Operand→Option (List Value)
  |[]=>some []
  |x::xs=>match ev ρ x with
    |some v=>match evs ρ xs with
      |some vs=>some (v::vs)
      |none=>none
    |none=>none
theorem oM {ρ:aC} {a:Act} (ha:sP ρ a):∀(xs:List Operand) (vs:List Value),evs ρ xs=some vs→xs.map a.eval=vs
  |[],vs,h=>by simp[evs] at h;simp[h]
  |x::xs,vs,h=>by
    simp only[evs] at h;cases hx:ev ρ x with
    |none=>simp[hx] at h
    |some v=>
      simp only[hx] at h;cases hxs:evs ρ xs with
      |none=>simp[hxs] at h
      |some us=>
        simp[hxs] at h;subst h;simp[bf ha hx,oM ha xs us hxs]
section
variable {P:Program} {K:Kx} {Q:Exit→Act→World→Prop} {ρ:aC} {l r:List au} {o:Oper} {v:Value}
theorem mY {f:FuncId} (h:C6 P f) (args:Array Value) (w:World):(callFunc f args).run P w=.ok (.enter f args) w:=by
  obtain⟨fn,hf,hn,hb⟩:=h;simp only[callFunc,Sem.run_bind,run_program,Result.andThen_ok,hf];rw[if_neg (by rw[hn];simp),if_neg (by rw[hb];simp)]
  rfl
theorem At.uK {a:Act} {w w':World} {lc rest rc wb:List au} (ha:At K ρ (lc++rest) r a w) (LZ:∀s ∈ rc,s ∈ rest++r) (hk:fw lc w w') (gV:St wb rc w')
    (C7:∀s ∈ wb,∀b j:Nat,s.has b j→(∃t ∈ lc,t.has b j)∨w.heap.size≤b):At K ρ (wb++rest) r a w':=by
  have jz:=ha.st;have hpw:=List.pairwise_append.1 jz.pw;have YO:∀s:au,s.oh w→(∀t ∈ lc,t.apart s)→s.oh w':=fun s hs wa=>hs.iw hk wa
  have YP:∀s ∈ wb,∀t:au,t.oh w→(∀u ∈ lc,u.apart t)→s.apart t:=fun s hs t ht wa b j h1 h2=>by
    rcases C7 s hs b j h1 with ⟨u,hu,YQ⟩|wC
    · exact wa u hu b j YQ h2
    · have:=ht.lt h2;omega
  have sO:∀t ∈ rest,∀u ∈ lc,u.apart t:=fun t ht u hu=>hpw.2.2 u hu t ht
  refine⟨ha.size,ha.defers,ha.fr,ha.keeps.trans' hk fun s hs b j hh=>ha.own s (List.mem_append_left _ hs) b j hh,⟨?_,?_,?_,?_⟩,?_⟩
  · intro s hs;rcases List.mem_append.1 hs with h|h
    · exact gV.hl s h
    · exact YO s (jz.hl s (List.mem_append_right _ h)) (sO s h)
  · intro s hs;exact YO s (jz.hr s hs) fun t ht=>jz.lr t (List.mem_append_left _ ht) s hs
  · refine List.pairwise_append.2 ⟨gV.pw,hpw.2.1,fun s hs t ht=>YP s hs t (jz.hl t (List.mem_append_right _ ht)) (sO t ht)⟩
  · intro s hs t ht;rcases List.mem_append.1 hs with h|h
    · exact YP s h t (jz.hr t ht) fun u hu=>jz.lr u (List.mem_append_left _ hu) t ht
    · exact jz.lr s (List.mem_append_right _ h) t ht
  · intro s hs b j hh;rcases List.mem_append.1 hs with h|h
    · rcases C7 s h b j hh with ⟨u,hu,YQ⟩|wC
      · exact ha.own u (List.mem_append_left _ hu) b j YQ
      · exact .inr (Nat.le_trans ha.keeps.size wC)
    · exact ha.own s (List.mem_append_right _ h) b j hh
theorem St.Ns {l r rc rest:List au} {w:World} (h:St (l++rest) r w) (LZ:∀s ∈ rc,s ∈ rest++r):St l rc w:=by
  have hpw:=List.pairwise_append.1 h.pw;refine⟨fun s hs=>h.hl s (List.mem_append_left _ hs),fun s hs=>?_,hpw.1,fun s hs t ht=>?_⟩
  · rcases List.mem_append.1 (LZ s hs) with h'|h'
    · exact h.hl s (List.mem_append_right _ h')
    · exact h.hr s h'
  · rcases List.mem_append.1 (LZ t ht) with h'|h'
    · grind
    · exact h.lr s (List.mem_append_left _ hs) t h'
theorem kT {c:Call} {f:FuncId} {args:List Value} {lc rest rc:List au} {dx:Value→List au→Prop} {d:Nat} (is rs:List Nat) (uF:aI P f args lc rc dx) (ho:o.op=.call c) (hf:c.callee=.value (.func f)) (gx:evs ρ c.args.toList=some args)
    (hl:pickS is l=some (lc,rest)) (hr:pickR rs (rest++r)=some rc) (hd:o.dst=some d) (hn:Nat.blt d K.n=true):
    kB P K ρ l r o (fun ρ' l'=>∃v wb,dx v wb∧ρ'=(d,v)::ρ∧l'=wb++rest):=by
  intro a w ha nx Q lY;have hA:=ha.perm (iy _ _ _ _ hl);have LZ:=uJ _ _ _ hr;have hca:=uF.run w (hA.st.Ns LZ);have iz:(c.args.map a.eval)=args.toArray:=by
    have:=oM ha.fr _ _ gx;grind
  have e:(execOp a.eval o).run P w=.ok (.enter f args.toArray) w:=by
    simp[execOp,ho,resolve,hf,iz,Act.eval,Deferred.ofValue,invoke,mY uF.can]
  unfold Oper.wp;rw[e];simp only[Oper.upon];refine hca.mono fun e w' hE=>?_
  obtain⟨v,wb,rfl,hP,hk,gV,C7⟩:=hE.out;simp only[hd];exact lY _ _ ⟨(d,v)::ρ,wb++rest,⟨v,wb,hP,rfl,rfl⟩,(hA.uK LZ hk gV C7).put hn v⟩
theorem mZ {dx:Value→List au→Prop} {l0 l' r:List au} {w0:World} {n:Nat} {a:Act} {w:World} {ρ:aC} (h:At ⟨n,l0,w0⟩ ρ l' r a w) (hP:dx v l'):Ends dx l0 r w0 (.returned v) w:=
  ⟨v,l',rfl,hP,h.keeps,h.st,h.own⟩
variable {fn:Func} {dx:Value→List au→Prop} {l0:List au} {w0:World} {n:Nat} {p rest:List au}
theorem dH (is:List Nat) (uL:fn.results= #[]) (hp:pickS is l=some (p,rest)) (hP:dx (.tuple #[]) p):GQ ⟨n,l0,w0⟩ (bodyPost P fn (Ends dx l0 r w0)) .normal ρ l r:=
  fun a w ha=>⟨ha.defers,_,by simp[results,uL],mZ (ha.pick is hp) hP⟩
theorem oN (is:List Nat) (uL:fn.results= #[]) (hp:pickS is l=some (p,rest)) (hP:dx (.tuple #[]) p):GQ ⟨n,l0,w0⟩ (bodyPost P fn (Ends dx l0 r w0)) .ret ρ l r:=
  fun a w ha=>⟨ha.defers,_,by simp[results,uL],mZ (ha.pick is hp) hP⟩
theorem Bf {a:Act} (ha:sP ρ a) {t:Nat} (h:look t ρ=some v):a.tmps.getD t undef=v:=by simp[ha t v h]
theorem ck {t:Nat} (is:List Nat) (uL:fn.results= #[.tmp t]) (hv:look t ρ=some v) (hp:pickS is l=some (p,rest)) (hP:dx v p):GQ ⟨n,l0,w0⟩ (bodyPost P fn (Ends dx l0 r w0)) .ret ρ l r:=
  fun a w ha=>⟨ha.defers,v,by rw[results_tmp uL,Bf ha.fr hv],mZ (ha.pick is hp) hP⟩
theorem jE {t1 t2:Nat} {v1 v2:Value} (is:List Nat) (uL:fn.results= #[.tmp t1,.tmp t2]) (wc:look t1 ρ=some v1) (vx:look t2 ρ=some v2) (hp:pickS is l=some (p,rest)) (hP:dx (.tuple #[v1,v2]) p):
    GQ ⟨n,l0,w0⟩ (bodyPost P fn (Ends dx l0 r w0)) .ret ρ l r:=
  fun a w ha=>⟨ha.defers,_,by rw[results_tmp2 uL,Bf ha.fr wc,Bf ha.fr vx],mZ (ha.pick is hp) hP⟩
theorem sS {t1 t2 t3:Nat} {v1 v2 v3:Value} (is:List Nat) (uL:fn.results= #[.tmp t1,.tmp t2,.tmp t3]) (wc:look t1 ρ=some v1) (vx:look t2 ρ=some v2) (CD:look t3 ρ=some v3) (hp:pickS is l=some (p,rest)) (hP:dx (.tuple #[v1,v2,v3]) p):
    GQ ⟨n,l0,w0⟩ (bodyPost P fn (Ends dx l0 r w0)) .ret ρ l r:=
  fun a w ha=>⟨ha.defers,_,by simp[results,uL,ha.fr _ _ wc,ha.fr _ _ vx,ha.fr _ _ CD],mZ (ha.pick is hp) hP⟩
theorem C9 {t1 t2 t3 t4:Nat} {v1 v2 v3 v4:Value} (is:List Nat) (uL:fn.results= #[.tmp t1,.tmp t2,.tmp t3,.tmp t4]) (wc:look t1 ρ=some v1) (vx:look t2 ρ=some v2) (CD:look t3 ρ=some v3) (hv4:look t4 ρ=some v4) (hp:pickS is l=some (p,rest)) (hP:dx (.tuple #[v1,v2,v3,v4]) p):
    GQ ⟨n,l0,w0⟩ (bodyPost P fn (Ends dx l0 r w0)) .ret ρ l r:=
  fun a w ha=>⟨ha.defers,_,by simp[results,uL,ha.fr _ _ wc,ha.fr _ _ vx,ha.fr _ _ CD,ha.fr _ _ hv4],mZ (ha.pick is hp) hP⟩
end
def aa (k:IntKind) (xs:List Nat):List Value:=xs.map fun n=>.int k ((n:Nat):Int)
def ints (k:IntKind) (xs:List Int):List Value:=xs.map fun n=>.int k n
theorem aM {k:IntKind} {xs:List Nat} {j:Nat} (h:j<xs.length):(aa k xs)[j]? =some (.int k ((xs.getD j 0:Nat):Int)):=by simp[aa,h]
theorem ig {k:IntKind} {xs:List Int} {j:Nat} (h:j<xs.length):(ints k xs)[j]? =some (.int k (xs.getD j 0)):=by simp[ints,h]
theorem sU (k:IntKind) (xs:List Nat) (j v:Nat):(aa k xs).set j (.int k ((v:Nat):Int))=aa k (xs.set j v):=by simp[aa,List.map_set]
theorem ints_set (k:IntKind) (xs:List Int) (j:Nat) (v:Int):(ints k xs).set j (.int k v)=ints k (xs.set j v):=by simp[ints,List.map_set]
@[simp] theorem bQ (k:IntKind) (xs:List Nat):(aa k xs).length=xs.length:=by simp[aa]
@[simp] theorem YR (k:IntKind) (xs:List Int):(ints k xs).length=xs.length:=by simp[ints]
section
variable {P:Program} {K:Kx} {Q:Exit→Act→World→Prop} {ρ:aC} {l r:List au} {o:Oper} {v:Value} {x y z:Operand} {t s f sz n m lo hi len cap b q j:Nat} {k k':IntKind}
theorem run_loadCellsFrom {w:World} (a:Addr):∀(n i:Nat) (vs acc:Array Value),(∀j,j<n→w.cell? (a.add (i+j))=some (vs.getD j undef))→vs.size=n→(loadCellsFrom a i n acc).run P w=.ok (acc++vs) w
  |0,i,vs,acc,h,hs=>by
    have:vs= #[]:=by apply Array.eq_empty_of_size_eq_zero hs
    simp[loadCellsFrom,this]
  |n+1,i,vs,acc,h,hs=>by
    have h0:=h 0 Om;simp only[Nat.add_zero] at h0;obtain⟨L⟩:=vs;cases L with
    |nil=>simp at hs
    |cons v vs=>
      simp at hs;have ih:=run_loadCellsFrom (w:=w) a n (i+1) vs.toArray (acc.push v) (fun j hj=>by
        have:=h (j+1) Om;rw[show i+1+j=i+(j+1) by omega,this];simp) (by simp[hs])
      simp at h0;simp only[loadCellsFrom,Sem.run_bind,run_load,h0,Result.andThen_ok,ih];simp
theorem zQ {w:World} {vs:List Value} (hP:l9 P t=some true) (hz:eV P t=some vs.length) (h:∀j,j<vs.length→w.cell? ⟨b,q+j,none⟩=some (vs.getD j undef)):(Instr.loadAt t (.pointer (some ⟨b,q,none⟩))).run P w=.ok (.agg vs.toArray) w:=by
  have:=run_loadCellsFrom (P:=P) (w:=w) ⟨b,q,none⟩ vs.length 0 vs.toArray #[] (fun j hj=>by rw[dd,Nat.zero_add,h j hj];simp) Oi;simp[Instr.loadAt,Instr.sureAddr,loadVar,qc hP,cC hz,loadCells,this]
theorem Jh {p:Addr} (ho:o.op=.load t x) (hx:ev ρ x=some (.pointer (some p))) (hP:l9 P t=some true) (hz:eV P t=some 0):aG P ρ o (.agg #[]):=fun ac ha w=>by
  simp[execOp,ho,bf ha hx,Instr.loadAt,Instr.sureAddr,loadVar,qc hP,cC hz,loadCells,loadCellsFrom]
theorem xd {cs vs:List Value} {i:Nat} (hv:(cs.drop j).take n=vs) (hn:vs.length=n) (hi:i<n):cs[j+i]? =some (vs.getD i undef):=by
  grind
theorem jI {sg:au} {vs:List Value} (i j:Nat) (hs:nthS i l=some sg) (ho:o.op=.load t x) (hx:ev ρ x=some (.pointer (some ⟨sg.b,q,none⟩))) (hP:l9 P t=some true) (hz:eV P t=some n) (hq:q=sg.o+j) (hv:(sg.cs.drop j).take n=vs) (hn:vs.length=n):nN P ρ l r o (.agg vs.toArray):=fun ac w ha gV=>by
  have jz:=gV.hl sg (dw _ _ _ hs);have e:=zQ (P:=P) (w:=w) (b:=sg.b) (q:=q) (vs:=vs) hP (by rw[hz,hn]) (fun i hi=>by
    subst hq;rw[show sg.o+j+i=sg.o+(j+i) by omega];exact jz.1 (j+i) _ (xd hv hn Om))
  simp[execOp,ho,bf ha hx,e]
theorem av {sg:au} {vs:List Value} (i j:Nat) (hs:nthS i r=some sg) (ho:o.op=.load t x) (hx:ev ρ x=some (.pointer (some ⟨sg.b,q,none⟩))) (hP:l9 P t=some true) (hz:eV P t=some n) (hq:q=sg.o+j) (hv:(sg.cs.drop j).take n=vs) (hn:vs.length=n):nN P ρ l r o (.agg vs.toArray):=fun ac w ha gV=>by
  have jz:=gV.hr sg (dw _ _ _ hs);have e:=zQ (P:=P) (w:=w) (b:=sg.b) (q:=q) (vs:=vs) hP (by rw[hz,hn]) (fun i hi=>by
    subst hq;rw[show sg.o+j+i=sg.o+(j+i) by omega];exact jz.1 (j+i) _ (xd hv hn Om))
  simp[execOp,ho,bf ha hx,e]
def spl (cs:List Value) (j:Nat):List Value→List Value
  |[]=>cs
  |v::vs=>spl (cs.set j v) (j+1) vs
theorem kU:∀(vs cs:List Value) (j:Nat),(spl cs j vs).length=cs.length
  |[],_,_=>rfl
  |v::vs,cs,j=>by simp[spl,kU vs]
theorem zR:∀(i:Nat) (s t:au) (l:List au),setS i s (setS i t l)=setS i s l
  |_,_,_,[]=>by simp[setS]
  |0,_,_,_::_=>rfl
  |n+1,s,t,_::l=>by simp[setS,zR n s t l]
theorem zS:∀(i:Nat) (s t:au) (l:List au),nthS i l=some t→nthS i (setS i s l)=some s
  |_,_,_,[],h=>by simp[nthS] at h
  |0,_,_,_::_,_=>rfl
  |n+1,s,t,_::l,h=>by simp only[nthS,setS] at h ⊢;exact zS n s t l h
theorem gQ:∀(i:Nat) (s:au) (l:List au),nthS i l=some s→setS i s l=l
  |_,_,[],h=>by simp[nthS] at h
  |0,_,_::_,h=>by simp[nthS] at h;simp[setS,h]
  |n+1,s,_::l,h=>by simp only[nthS,setS] at h ⊢;rw[gQ n s l h]
theorem fE {a:Act}:∀(vs:List Value) (i0 j:Nat) (l:List au) (w:World) (sg:au) (i:Nat) (b q:Nat),At K ρ l r a w→nthS i l=some sg→b=sg.b→q+i0=sg.o+j→j+vs.length≤sg.cs.length→(∀v ∈ vs,v.oneCell'=true)→
    ∃w',(storeCells ⟨b,q,none⟩ vs i0).run P w=.ok () w'∧At K ρ (setS i ⟨sg.b,sg.o,spl sg.cs j vs,sg.sh⟩ l) r a w'
  |[],i0,j,l,w,sg,i,b,q,ha,hs,_,_,_,_=>⟨w,rfl,by
      have:(⟨sg.b,sg.o,spl sg.cs j [],sg.sh⟩:au)=sg:=rfl;rw[this,gQ i sg l hs];exact ha⟩
  |v::vs,i0,j,l,w,sg,i,b,q,ha,hs,hb,hq,hj,hv=>by
    simp only[List.length_cons] at hj;subst hb;have h1:=ha.store hs (j:=j) Om v;have jz:=ha.st.hl sg (dw _ _ _ hs);have kS:w.cell? ⟨sg.b,sg.o+j,none⟩=some (sg.cs[j]' Om):=jz.1 j _ Oi;obtain⟨w',hr,hA⟩:=fE vs (i0+1) (j+1) _ _ ⟨sg.b,sg.o,sg.cs.set j v,sg.sh⟩ i sg.b q h1 (zS i _ _ _ hs) rfl (show q+(i0+1)=sg.o+(j+1) by omega) Oz (fun u hu=>hv u (List.mem_cons_of_mem _ hu));refine⟨w',?_,by rw[zR] at hA;exact hA⟩;simp only[storeCells,Sem.run_bind,dd,hq,vw (P:=P) (hv v List.mem_cons_self) kS (jz.2.1 j Om),Result.andThen_ok];exact hr
theorem kp {sg:au} {vs:List Value} (i j:Nat) {gM:List Value} (hs:nthS i l=some sg) (ho:o.op=.store t x y) (hx:ev ρ x=some (.pointer (some ⟨sg.b,q,none⟩))) (hy:ev ρ y=some (.agg vs.toArray)) (hP:eV P t=some n) (hn:vs.length=n) (hv:(vs.all fun u=>u.oneCell')=true)
    (hq:q=sg.o+j) (hj:j+n≤sg.cs.length) (hd:o.dst=none) (hc:spl sg.cs j vs=gM):kB P K ρ l r o (fun ρ' l'=>ρ'=ρ∧l'=setS i ⟨sg.b,sg.o,gM,sg.sh⟩ l):=by
  intro a w ha nx Q lY;obtain⟨w',hr,hA⟩:=fE (P:=P) vs 0 j l w sg i sg.b q ha hs rfl Om Om (fun u hu=>List.all_eq_true.1 hv u hu);unfold Oper.wp;have e:(execOp a.eval o).run P w=.ok .skip w':=by
    simp[execOp,ho,bf ha.fr hx,bf ha.fr hy,Instr.storeAt,Instr.sureAddr,storeVar,cC hP,Value.cells,hn,hr]
  rw[e];simp only[Oper.upon,hd,Act.put];grind
theorem de {q':Nat} (ho:o.op=.slice t x (some y) none none) (hx:ev ρ x=some (.slice (some ⟨b,q,none⟩) len cap)) (hy:ev ρ y=some (.int k (lo:Nat))) (hP:cF P t=some sz) (h:lo≤len∧lo<cap) (hq:q+lo*sz=q'):aG P ρ o (.slice (some ⟨b,q',none⟩) (len-lo) (cap-lo)):=by
  subst hq;intro ac ha w;unfold cF at hP;cases hu:P.underlying t with
  |none=>simp[hu] at hP
  |some D=>
    cases D<;>simp[hu] at hP;simp[execOp,ho,bf ha hx,bf ha hy,Instr.sliceAt,aK hu,Instr.slice,Instr.sliceBounds,Instr.sliceBound,asIntOf,cC hP,h.1,dd,show¬cap=lo by omega]
theorem qV (ho:o.op=.slice t x none (some y) none) (hx:ev ρ x=some (.slice (some ⟨b,q,none⟩) len cap)) (hy:ev ρ y=some (.int k (hi:Nat))) (hP:cF P t=some sz) (h:hi≤cap):aG P ρ o (.slice (some ⟨b,q,none⟩) hi cap):=fun ac ha w=>by
  unfold cF at hP;cases hu:P.underlying t with
  |none=>simp[hu] at hP
  |some D=>
    cases D<;>simp[hu] at hP;simp[execOp,ho,bf ha hx,bf ha hy,Instr.sliceAt,aK hu,Instr.slice,Instr.sliceBounds,Instr.sliceBound,asIntOf,cC hP,h,dd]
theorem iZ {q':Nat} (ho:o.op=.slice t x (some y) (some z) none) (hx:ev ρ x=some (.slice (some ⟨b,q,none⟩) len cap)) (hy:ev ρ y=some (.int k (lo:Nat))) (hz:ev ρ z=some (.int k' (hi:Nat))) (hP:cF P t=some sz) (h:lo≤hi∧hi≤cap∧lo<cap) (hq:q+lo*sz=q'):aG P ρ o (.slice (some ⟨b,q',none⟩) (hi-lo) (cap-lo)):=by
  subst hq;intro ac ha w;unfold cF at hP;cases hu:P.underlying t with
  |none=>simp[hu] at hP
  |some D=>
    cases D<;>simp[hu] at hP;simp[execOp,ho,bf ha hx,bf ha hy,bf ha hz,Instr.sliceAt,aK hu,Instr.slice,Instr.sliceBounds,Instr.sliceBound,asIntOf,cC hP,h.1,h.2.1,dd,show¬cap=lo by omega]
theorem xf (ho:o.op=.slice t x none none none) (hx:ev ρ x=some (.pointer (some ⟨b,q,none⟩))) (hP:gP P t=some (n,sz)):aG P ρ o (.slice (some ⟨b,q,none⟩) n n):=fun ac ha w=>by
  unfold gP at hP;cases hu:P.underlying t with
  |none=>simp[hu] at hP
  |some D=>
    cases D<;>simp[hu] at hP;obtain⟨h1,rfl⟩:=hP;simp[execOp,ho,bf ha hx,Instr.sliceAt,aK hu,Instr.sliceBounds,Instr.sureAddr,cC h1,dd]
theorem abC (ho:o.op=.slice t x none (some y) none) (hx:ev ρ x=some (.pointer (some ⟨b,q,none⟩))) (hy:ev ρ y=some (.int k (hi:Nat))) (hP:gP P t=some (n,sz)) (h:hi≤n):aG P ρ o (.slice (some ⟨b,q,none⟩) hi n):=fun ac ha w=>by
  unfold gP at hP;cases hu:P.underlying t with
  |none=>simp[hu] at hP
  |some D=>
    cases D<;>simp[hu] at hP;obtain⟨h1,rfl⟩:=hP;simp[execOp,ho,bf ha hx,bf ha hy,Instr.sliceAt,aK hu,Instr.sliceBounds,Instr.sliceBound,asIntOf,Instr.sureAddr,cC h1,dd,h]
theorem At.alloc {a:Act} {w:World} (h:At K ρ l r a w) (cs:Array Value) (T:TypeId):At K ρ (⟨w.heap.size,0,cs.toList,some (T,cs.size)⟩::l) r a (w.alloc (.cells cs T)):=by
  have hk:fw [] w (w.alloc (.cells cs T)):=fw.alloc [] w _;have asz:(⟨w.heap.size,0,cs.toList,some (T,cs.size)⟩:au).oh (w.alloc (.cells cs T)):=by
    refine⟨fun j v hj=>?_,fun j hj=>?_,fun x hx=>?_⟩
    · simp_all
    · simp_all
    · have hx':some (T,cs.size)=some x:=hx;rw[←hx'];show(match (w.heap.push (.cells cs T))[w.heap.size]? with|some (.cells c elem _)=>some (elem,c.size)|_=>none)=_;grind
  have wa:∀s:au,s.oh w→∀b j:Nat,s.has b j→¬(⟨w.heap.size,0,cs.toList,some (T,cs.size)⟩:au).has b j:=fun s hs b j h1 h2=>by
    have:=hs.lt h1;have:=h2.1;grind
  refine⟨h.size,h.defers,h.fr,h.keeps.trans' hk Oi,⟨?_,fun s hs=>(h.st.hr s hs).iw hk Oi,?_,?_⟩,?_⟩
  · intro s hs;rcases List.mem_cons.1 hs with h'|h'
    · grind
    · exact(h.st.hl s h').iw hk Oi
  · exact List.Pairwise.cons (fun s hs b j h1 h2=>wa s (h.st.hl s hs) b j h2 h1) h.st.pw
  · intro s hs t ht;rcases List.mem_cons.1 hs with h'|h'
    · subst h';exact fun b j h1 h2=>wa t (h.st.hr t ht) b j h2 h1
    · exact h.st.lr s h' t ht
  · intro s hs b j hh;rcases List.mem_cons.1 hs with h'|h'
    · subst h';right;have:=hh.1;simp at this;have:=h.keeps.size;omega
    · exact h.own s h' b j hh
def Da:Value→List Value
  | .agg cs=>cs.toList
  |v=>[v]
theorem Db (v:Value):v.cells.toList=Da v:=by cases v<;>rfl
theorem jJ {d:Nat} {cs:List Value} (ho:o.op=.box t x) (hx:ev ρ x=some v) (hc:Da v=cs) (hd:o.dst=some d) (hn:Nat.blt d K.n=true):
    kB P K ρ l r o (fun ρ' l'=>∃b,ρ'=(d,.pointer (some ⟨b,0,none⟩))::ρ∧l'=⟨b,0,cs,some (t,cs.length)⟩::l):=by
  intro a w ha nx Q lY;unfold Oper.wp;have e:(execOp a.eval o).run P w=.ok (.value (.pointer (some ⟨w.heap.size,0,none⟩))) (w.alloc (.cells v.cells t)):=by
    simp[execOp,ho,bf ha.fr hx,Instr.box,newVar,newRow]
  rw[e];simp only[Oper.upon,hd];refine lY _ _ ⟨_,_,⟨w.heap.size,rfl,rfl⟩,?_⟩;have h1:=(ha.alloc v.cells t).put hn (.pointer (some ⟨w.heap.size,0,none⟩));grind [Db]
theorem KB {e:Nat} {ty:TypeId} {p:Option Addr} (hu:P.underlying ty=some (.pointer e)) (w:World) (d:Nat):(Op.equalIn (d+1) ty (.pointer p) (.pointer none)).run P w=.ok p.isNone w:=by
  cases p<;>simp[Op.equalIn,aK hu]
theorem KC {ms:Array (String × TypeId)} {ty:TypeId} (hu:P.underlying ty=some (.interface ms)) (w:World) (d:Nat):(Op.equalIn (d+1) ty .nilIface .nilIface).run P w=.ok true w:=by
  simp[Op.equalIn,aK hu]
theorem KD {ms:Array (String × TypeId)} {ty T:TypeId} {u:Value} (hu:P.underlying ty=some (.interface ms)) (w:World) (d:Nat):(Op.equalIn (d+1) ty (.iface T u) .nilIface).run P w=.ok false w:=by
  simp[Op.equalIn,aK hu]
theorem FT {e:Nat} {ty:TypeId} {p:Option Addr} (hu:P.underlying ty=some (.pointer e)) (w:World):(Op.equal ty (.pointer p) (.pointer none)).run P w=.ok p.isNone w:=KB hu w 9999
theorem Nt {ms:Array (String × TypeId)} {ty:TypeId} (hu:P.underlying ty=some (.interface ms)) (w:World):(Op.equal ty .nilIface .nilIface).run P w=.ok true w:=KC hu w 9999
theorem Nu {ms:Array (String × TypeId)} {ty T:TypeId} {u:Value} (hu:P.underlying ty=some (.interface ms)) (w:World):(Op.equal ty (.iface T u) .nilIface).run P w=.ok false w:=KD hu w 9999
theorem m8 {bo:BinOp} {u c:Value} {bb:Bool} {ty bN:TypeId} (hb:bo=.eql∨bo=.neq) (ho:o.op=.binOp bo ty x (.const c) bN) (hx:ev ρ x=some u) (hc:(∃p,u=.pointer p∧c=.pointer none)∨(c=.nilIface∧(u=.nilIface∨∃T q,u=.iface T q))) (h:∀w,(Op.equal ty u c).run P w=.ok bb w):aG P ρ o (.bool (if bo=.eql then bb else !bb)):=fun ac ha w=>by
  have hg:(eqGuard bo ty x (.const c) u c).run P w=.ok () w:=by
    unfold eqGuard;rcases hb with rfl|rfl<;>rcases hc with ⟨p,rfl,rfl⟩|⟨rfl,rfl|⟨T,q,rfl⟩⟩<;>simp
  have hr:(binOp bo ty u c).run P w=.ok (.bool (if bo=.eql then bb else !bb)) w:=by
    rcases hb with rfl|rfl<;>rcases hc with ⟨p,rfl,rfl⟩|⟨rfl,rfl|⟨T,q,rfl⟩⟩<;>simp[binOp,h]
  have abD:ac.eval (.const c)=c:=rfl;simp only[execOp,ho,bf ha hx,abD,Sem.run_bind,hg,hr,Result.andThen_ok,Sem.run_pure]
theorem FU {p:Addr} {e:Nat} {ty bN:TypeId} (ho:o.op=.binOp .eql ty x (.const (.pointer none)) bN) (hx:ev ρ x=some (.pointer (some p))) (hu:P.underlying ty=some (.pointer e)):aG P ρ o (.bool false):=m8 (.inl rfl) ho hx (.inl ⟨_,rfl,rfl⟩) (FT hu)
theorem FV {p:Addr} {e:Nat} {ty bN:TypeId} (ho:o.op=.binOp .neq ty x (.const (.pointer none)) bN) (hx:ev ρ x=some (.pointer (some p))) (hu:P.underlying ty=some (.pointer e)):aG P ρ o (.bool true):=m8 (.inr rfl) ho hx (.inl ⟨_,rfl,rfl⟩) (FT hu)
theorem oO {e:Nat} {ty bN:TypeId} (ho:o.op=.binOp .eql ty x (.const (.pointer none)) bN) (hx:ev ρ x=some (.pointer none)) (hu:P.underlying ty=some (.pointer e)):aG P ρ o (.bool true):=m8 (.inl rfl) ho hx (.inl ⟨_,rfl,rfl⟩) (FT hu)
theorem xg {ms:Array (String × TypeId)} {ty bN:TypeId} (ho:o.op=.binOp .eql ty x (.const .nilIface) bN) (hx:ev ρ x=some .nilIface) (hu:P.underlying ty=some (.interface ms)):aG P ρ o (.bool true):=m8 (.inl rfl) ho hx (.inr ⟨rfl,.inl rfl⟩) (Nt hu)
theorem df {ms:Array (String × TypeId)} {ty bN:TypeId} (ho:o.op=.binOp .neq ty x (.const .nilIface) bN) (hx:ev ρ x=some .nilIface) (hu:P.underlying ty=some (.interface ms)):aG P ρ o (.bool false):=m8 (.inr rfl) ho hx (.inr ⟨rfl,.inl rfl⟩) (Nt hu)
theorem zT {ms:Array (String × TypeId)} {T:TypeId} {u:Value} {ty bN:TypeId} (ho:o.op=.binOp .eql ty x (.const .nilIface) bN) (hx:ev ρ x=some (.iface T u)) (hu:P.underlying ty=some (.interface ms)):aG P ρ o (.bool false):=m8 (.inl rfl) ho hx (.inr ⟨rfl,.inr ⟨_,_,rfl⟩⟩) (Nu hu)
theorem ma {ms:Array (String × TypeId)} {T:TypeId} {u:Value} {ty bN:TypeId} (ho:o.op=.binOp .neq ty x (.const .nilIface) bN) (hx:ev ρ x=some (.iface T u)) (hu:P.underlying ty=some (.interface ms)):aG P ρ o (.bool true):=m8 (.inr rfl) ho hx (.inr ⟨rfl,.inr ⟨_,_,rfl⟩⟩) (Nu hu)
theorem Bg {sb:ByteArray} {c:Nat} {t:Nat} (ho:o.op=.index t x y) (hx:ev ρ x=some (.string sb)) (hy:ev ρ y=some (.int k (m:Nat))) (hu:P.underlying t=some .string) (h:sb[m]?.map UInt8.toNat=some c):aG P ρ o (.int .u8 ((c:Nat):Int)):=fun ac ha w=>by
  cases hs:sb[m]? with
  |none=>rw[hs] at h;simp at h
  |some b=>
    rw[hs] at h;simp at h;simp[execOp,ho,bf ha hx,bf ha hy,Instr.index,asIntOf,aK hu,hs,h]
theorem kC {a:Call} {ac:Act} (ha:sP ρ ac) {vs:List Value} (h:evs ρ a.args.toList=some vs):a.args.map ac.eval=vs.toArray:=by
  apply Array.toList_inj.1;simpa using oM ha _ _ h
theorem YT {p:Option Addr} {a:Call} (ho:o.op=.call a) (hc:a.callee=.builtin .len) (hx:evs ρ a.args.toList=some [.slice p len cap]) (ht:a.argTypes= #[t]) (hu:P.underlying t=some (.slice s)):aG P ρ o (.int .i64 ((len:Nat):Int)):=fun ac hac w=>by
  simp[execOp,ho,resolve,hc,kC hac hx,invoke,builtin,Builtin.len_,ht,aK hu,goInt]
theorem ai3 {p:Option Addr} {a:Call} (ho:o.op=.call a) (hc:a.callee=.builtin .cap) (hx:evs ρ a.args.toList=some [.slice p len cap]) (ht:a.argTypes= #[t]) (hu:P.underlying t=some (.slice s)):aG P ρ o (.int .i64 ((cap:Nat):Int)):=fun ac hac w=>by
  simp[execOp,ho,resolve,hc,kC hac hx,invoke,builtin,Builtin.cap_,ht,aK hu,goInt]
end
section
variable {P:Program} {K:Kx} {Q:Exit→Act→World→Prop} {ρ:aC} {l r:List au} {o:Oper} {v:Value} {x y z:Operand} {t s f sz n m c lo hi len cap b q j d:Nat} {k k':IntKind}
theorem At.ly {a:Act} {w:World} {s:au} (h:At K ρ (s::l) r a w):At K ρ (⟨s.b,s.o,s.cs,none⟩::l) r a w:=by
  refine⟨h.size,h.defers,h.fr,h.keeps,⟨?_,h.st.hr,?_,?_⟩,?_⟩
  · intro u hu;rcases List.mem_cons.1 hu with h'|h'
    · subst h';have:=h.st.hl s List.mem_cons_self;exact⟨this.1,this.2.1,fun x hx=>by cases hx⟩
    · exact h.st.hl u (List.mem_cons_of_mem _ h')
  · have:=List.pairwise_cons.1 h.st.pw;exact List.Pairwise.cons (fun u hu=>this.1 u hu) this.2
  · intro u hu t ht;rcases List.mem_cons.1 hu with h'|h'
    · subst h';exact h.st.lr s List.mem_cons_self t ht
    · exact h.st.lr u (List.mem_cons_of_mem _ h') t ht
  · intro u hu b j hh;rcases List.mem_cons.1 hu with h'|h'
    · subst h';exact h.own s List.mem_cons_self b j hh
    · exact h.own u (List.mem_cons_of_mem _ h') b j hh
theorem uM:∀(i:Nat) (s t:au) (l:List au),nthS i l=some t→(s::l).Perm (setS i s l++[t])
  |_,_,_,[],h=>by simp[nthS] at h
  |0,s,t,u::l,h=>by
    simp[nthS] at h;subst h;simp only[setS,List.cons_append];exact(List.perm_append_comm (l₁:=[u]) (l₂:=l)).cons s
  |n+1,s,t,u::l,h=>by
    simp only[nthS,setS] at h ⊢;exact(List.Perm.swap u s l).trans ((uM n s t l h).cons u)
theorem At.abE {a:Act} {w:World} {s t:au} {i:Nat} (h:At K ρ (s::l) r a w) (hi:nthS i l=some t):At K ρ (setS i s l) r a w:=(h.perm (uM i s t l hi)).left
theorem At.empty {a:Act} {w:World} (h:At K ρ l r a w) (b o:Nat):At K ρ (⟨b,o,[],none⟩::l) r a w:=by
  have no:∀b' j:Nat,¬(⟨b,o,[],none⟩:au).has b' j:=fun b' j hh=>by have:=hh.2;simp at this;omega
  refine⟨h.size,h.defers,h.fr,h.keeps,⟨?_,h.st.hr,?_,?_⟩,?_⟩
  · intro u hu;rcases List.mem_cons.1 hu with h'|h'
    · subst h';exact⟨fun j v hj=>by simp at hj,fun j hj=>by simp at hj,fun x hx=>by cases hx⟩
    · exact h.st.hl u h'
  · exact List.Pairwise.cons (fun u hu b j h1 _=>no b j h1) h.st.pw
  · intro u hu t ht;rcases List.mem_cons.1 hu with h'|h'
    · subst h';exact fun b j h1 _=>no b j h1
    · exact h.st.lr u h' t ht
  · intro u hu b j hh;rcases List.mem_cons.1 hu with h'|h'
    · grind
    · exact h.own u h' b j hh
theorem GQ.KE {e:Exit} (h:GQ K Q e ρ (⟨0,0,[],none⟩::l) r):GQ K Q e ρ l r:=fun a w ha=>h a w (ha.empty 0 0)
theorem asA {cs:List Value} (ho:o.op=.alloc t) (hz:vv P t=some cs) (hd:o.dst=some d) (hn:Nat.blt d K.n=true):
    kB P K ρ l r o (fun ρ' l'=>∃b,ρ'=(d,.pointer (some ⟨b,0,none⟩))::ρ∧l'=⟨b,0,cs,none⟩::l):=by
  intro a w ha nx Q lY;unfold vv at hz;cases hi:P.info? t with
  |none=>simp[hi] at hz
  |some i=>
    cases rB:i.zero with
    |none=>simp[hi,rB] at hz
    |some zv=>
      simp[hi,rB] at hz;unfold Oper.wp;have e:(execOp a.eval o).run P w=.ok (.value (.pointer (some ⟨w.heap.size,0,none⟩))) (w.alloc (.cells zv.cells t)):=by
        simp[execOp,ho,Instr.alloc,zeroValue,j6 hi,rB,newVar,newRow]
      rw[e];simp only[Oper.upon,hd];refine lY _ _ ⟨_,_,⟨w.heap.size,rfl,rfl⟩,?_⟩;have h1:=((ha.alloc zv.cells t).ly).put hn (.pointer (some ⟨w.heap.size,0,none⟩));grind
def e8 (P:Program) (t:Nat):Option (Nat × List Value × Nat × Nat):=
  match P.underlying t with
  |some (.slice e)=>(P.info? e).bind fun i=>i.zero.map fun z=>(e,z.cells.toList,i.size,i.bytes)
  |_=>none
theorem fZ {e nQ:Nat} {zs:List Value} (h:e8 P t=some (e,zs,sz,nQ)):∃i z,P.underlying t=some (.slice e)∧P.info? e=some i∧i.zero=some z∧z.cells.toList=zs∧i.size=sz∧i.bytes=nQ:=by
  unfold e8 at h;cases hu:P.underlying t with
  |none=>simp[hu] at h
  |some D=>
    cases D<;>simp[hu] at h;rename_i e';cases hi:P.info? e' with
    |none=>simp[hi] at h
    |some i=>
      cases hz:i.zero with
      |none=>simp[hi,hz] at h
      |some z=>
        grind
theorem zU (zs:List Value) (hz:0<zs.length):∀c,(List.range (c*zs.length)).map (fun i=>zs.toArray[i%zs.toArray.size]!)=(List.replicate c zs).flatten
  |0=>by simp
  |c+1=>by
    rw[Nat.add_mul,Nat.one_mul,List.range_add,List.map_append,zU zs hz c,List.replicate_succ',List.flatten_append];congr 1;simp only[List.map_map,List.flatten_cons,List.flatten_nil,List.append_nil];apply List.ext_getElem
    · simp
    · intro i h1 h2;simp at h1;simp[Nat.mod_eq_of_lt h1,h1,getElem!_pos]
theorem xh {zv:Value} {zs:List Value} (h:zv.cells.toList=zs) (hz:zs.length=sz) (h0:0<sz) (c:Nat):(madeCells zv.cells (c*sz)).toList=(List.replicate c zs).flatten:=by
  subst hz;have:zv.cells=zs.toArray:=by apply Array.toList_inj.1;simpa using h
  rw[this];simp only[madeCells,Array.toList_map,Array.toList_range];grind [zU]
theorem Dd {kl kc:IntKind} {e nQ:Nat} {zs:List Value} (ho:o.op=.makeSlice t x y) (hx:ev ρ x=some (.int kl ((m:Nat):Int))) (hy:ev ρ y=some (.int kc ((c:Nat):Int))) (hP:e8 P t=some (e,zs,sz,nQ)) (hz:zs.length=sz) (h0:0<sz) (h:m≤c∧nQ*c≤281474976710656∧c≤9223372036854775807) (hd:o.dst=some d) (hn:Nat.blt d K.n=true):
    kB P K ρ l r o (fun ρ' l'=>∃b,ρ'=(d,.slice (some ⟨b,0,none⟩) m c)::ρ∧l'=⟨b,0,(List.replicate c zs).flatten,none⟩::l):=by
  intro a w ha nx Q lY;obtain⟨i,zv,hu,hi,rB,lz,vy,hby⟩:=fZ hP;unfold Oper.wp;have hb:(i.bytes:Int)*((c:Nat):Int)≤281474976710656:=by
    grind
  have hr:=run_make (P:=P) w t e i zv hu hi rB kl kc m c Om Om hb Om;simp only[Int.toNat_natCast,vy] at hr;have he:(execOp a.eval o).run P w=.ok (.value (.slice (some ⟨w.heap.size,0,none⟩) m c)) (w.alloc (.cells (madeCells zv.cells (c*sz)) e)):=by
    simp[execOp,ho,bf ha.fr hx,bf ha.fr hy,hr]
  rw[he];simp only[Oper.upon,hd];refine lY _ _ ⟨_,_,⟨w.heap.size,rfl,rfl⟩,?_⟩;have h1:=((ha.alloc (madeCells zv.cells (c*sz)) e).ly).put hn (.slice (some ⟨w.heap.size,0,none⟩) m c);grind [xh]
theorem asB {kl kc:IntKind} {e nQ:Nat} {z:Value} (ho:o.op=.makeSlice t x y) (hx:ev ρ x=some (.int kl ((m:Nat):Int))) (hy:ev ρ y=some (.int kc ((c:Nat):Int))) (hP:e8 P t=some (e,[z],1,nQ)) (h:m≤c∧nQ*c≤281474976710656∧c≤9223372036854775807) (hd:o.dst=some d) (hn:Nat.blt d K.n=true):
    kB P K ρ l r o (fun ρ' l'=>∃b,ρ'=(d,.slice (some ⟨b,0,none⟩) m c)::ρ∧l'=⟨b,0,List.replicate c z,none⟩::l):=by
  have:=Dd (K:=K) (l:=l) (r:=r) ho hx hy hP rfl Om h hd hn;simp_all
structure GS (q:Option Addr) (b o:Nat) (cs:List Value) (sz cap:Nat):Prop where
  len:cs.length=cap*sz
  ad:q=some ⟨b,o,none⟩∨(q=none∧cap=0)
theorem GS.ay {q:Option Addr} {b o:Nat} {cs:List Value} (h:GS q b o cs sz cap) (hc:0<cap):q=some ⟨b,o,none⟩:=by
  rcases h.ad with h'|⟨_,h'⟩
  · exact h'
  · omega
def Src (l r:List au) (q:Option Addr) (news:List Value):Prop:=news=[]∨∃sg ∈ l++r,∃j,q=some ⟨sg.b,sg.o+j,none⟩∧(sg.cs.drop j).take news.length=news
theorem Src.mf {sg:au} {q2:Option Addr} {news:List Value} (i j:Nat) (hs:nthS i l=some sg) (hq:q2=some ⟨sg.b,sg.o+j,none⟩) (hv:(sg.cs.drop j).take news.length=news):Src l r q2 news:=
  .inr ⟨sg,List.mem_append_left _ (dw _ _ _ hs),j,hq,hv⟩
theorem Src.cells {q:Option Addr} {news:List Value} {a:Act} {w:World} (h:Src l r q news) (ha:At K ρ l r a w):news=[]∨∃ad,q=some ad∧∀j u,news[j]? =some u→w.cell? (ad.add j)=some u:=by
  rcases h with h|⟨sg,hm,j,hq,hv⟩
  · exact .inl h
  · refine .inr ⟨_,hq,fun i u hu=>?_⟩;have jz:sg.oh w:=by
      rcases List.mem_append.1 hm with h|h
      · exact ha.st.hl sg h
      · exact ha.st.hr sg h
    have hi:i<news.length:=(List.getElem?_eq_some_iff.1 hu).1;have hc:sg.cs[j+i]? =some u:=by
      grind
    rw[dd,Nat.add_assoc];exact jz.1 _ _ hc
theorem xi:∀(vs cs:List Value) (j:Nat),j+vs.length≤cs.length→spl cs j vs=cs.take j++vs++cs.drop (j+vs.length)
  |[],cs,j,h=>by simp[spl]
  |v::vs,cs,j,h=>by
    simp only[List.length_cons] at h;simp only[spl,List.length_cons];rw[xi vs (cs.set j v) (j+1) Oz];rw[List.drop_set,if_pos Om,List.take_set];have e1:(cs.take (j+1)).set j v=cs.take j++[v]:=by
      rw[List.take_succ_eq_append_getElem Om,List.set_append_right _ _ Oz];have:j-(List.take j cs).length=0:=by simp;omega
      rw[this];rfl
    grind
theorem De (vs cs:List Value) (j:Nat) (h:j+vs.length≤cs.length):(spl cs j vs).take (j+vs.length)=cs.take j++vs:=by
  grind [xi]
theorem iA:∀(i:Nat) (s t:au) (l:List au),nthS i l=some t→(setS i s l).Perm (s::l.eraseIdx i)
  |_,_,_,[],h=>by simp[nthS] at h
  |0,s,t,u::l,h=>by simp[setS]
  |i+1,s,t,u::l,h=>by
    simp only[setS,List.eraseIdx_cons_succ];exact((iA i s t l (by simpa [nthS] using h)).cons u).trans (.swap _ _ _)
theorem ai4 {ca:Call} {q q2:Option Addr} {b o' c2 e nQ:Nat} {cs zs news:List Value} {sh:Option (TypeId × Nat)} (i:Nat) (ho:o.op=.call ca) (hc:ca.callee=.builtin .append) (gx:evs ρ ca.args.toList=some [.slice q n cap,.slice q2 m c2]) (vz:ca.argTypes= #[t,t]) (hP:e8 P t=some (e,zs,sz,nQ)) (hz:zs.length=sz)
    (hs:nthS i l=some ⟨b,o',cs,sh⟩) (hg:GS q b o' cs sz cap) (oQ:Src l r q2 news) (hn:n≤cap∧0<sz∧(n+m)*nQ≤140737488355328∧n+m≤9223372036854775807) (hlen:news.length=m*sz) (h1:(news.all fun u=>u.oneCell')=true) (hd:o.dst=some d) (sM:Nat.blt d K.n=true):
    kB P K ρ l r o (fun ρ' l'=>∃q' b' o' gM fY,GS q' b' o' gM sz fY∧n+m≤fY∧gM.take ((n+m)*sz)=cs.take (n*sz)++news∧ρ'=(d,.slice q' (n+m) fY)::ρ∧l'=setS i ⟨b',o',gM,none⟩ l):=by
  intro a w ha nx Q lY;obtain⟨Ji,h0,hby,UY⟩:=hn;obtain⟨i',zv,hu,hi,rB,lz,vy,Df⟩:=fZ hP;have rC:∀w,(sizeOf e).run P w=.ok sz w:=cC (by simp[eV,hi,vy]);have iz:=kC ha.fr gx;have Wb:∀u ∈ news,u.oneCell'=true:=fun u hu=>List.all_eq_true.1 h1 u hu
  have ks:∀(u:Value) (w':World),(Builtin.append_ #[t,t] o.type #[.slice q n cap,.slice q2 m c2]).run P w=.ok u w'→(execOp a.eval o).run P w=.ok (.value u) w':=fun u w' h=>by
    simp[execOp,ho,resolve,hc,iz,invoke,builtin,vz,h]
  have zV:zv.cells.size=sz:=by rw[←hz, ←lz];simp
  have YU:cs.length=cap*sz:=hg.len;unfold Oper.wp;by_cases ja:n+m≤cap
  · -- within the room
    have hle:(n+m)*sz≤cap*sz:=Nat.mul_le_mul_right _ ja;rw[Nat.add_mul] at hle;have fin:∀(w':World) (q':Option Addr),At K ρ (setS i ⟨b,o',spl cs (n*sz) news,none⟩ l) r a w'→q'=q→
        nx (a.put (some d) (.slice q' (n+m) cap)) w':=fun w' q' hA hq'=>by
      subst hq';refine lY _ _ ⟨_,_,⟨q',b,o',spl cs (n*sz) news,cap,⟨by rw[kU];exact YU,hg.ad⟩,ja,?_,rfl,rfl⟩,hA.put sM _⟩;grind [De]
    have asC:∀w',At K ρ (setS i ⟨b,o',spl cs (n*sz) news,sh⟩ l) r a w'→At K ρ (setS i ⟨b,o',spl cs (n*sz) news,none⟩ l) r a w':=fun w' hA=>by
      exact((hA.perm (iA i _ _ l hs)).ly).perm (iA i _ _ l hs).symm
    rcases oQ.cells ha with Dh|⟨ad,Nv,jb⟩
    · -- nothing is appended
      subst Dh;have hm:m=0:=by
        rcases Nat.mul_eq_zero.1 (show m*sz=0 by simpa using hlen.symm) with h|h
        · exact h
        · omega
      subst hm;have Di:(Builtin.firstCells sz 0 (.slice q2 0 c2)).run P w=.ok #[] w:=by
        cases q2<;>simp[Builtin.firstCells,loadCells,loadCellsFrom]
      have hr:(Builtin.append_ #[t,t] o.type #[.slice q n cap,.slice q2 0 c2]).run P w=.ok (.slice q (n+0) cap) w:=by
        cases q<;>simp[Builtin.append_,aK hu,rC,Builtin.lenOf,ja,Ji,Di,storeCells]
      rw[ks _ _ hr];simp only[Oper.upon,hd];grind [spl,au,gQ]
    · by_cases L3:m=0
      · subst L3;simp at hlen;subst hlen;have Di:(Builtin.firstCells sz 0 (.slice q2 0 c2)).run P w=.ok #[] w:=by
          cases q2<;>simp[Builtin.firstCells,loadCells,loadCellsFrom]
        have hr:(Builtin.append_ #[t,t] o.type #[.slice q n cap,.slice q2 0 c2]).run P w=.ok (.slice q (n+0) cap) w:=by
          cases q<;>simp[Builtin.append_,aK hu,rC,Builtin.lenOf,ja,Ji,Di,storeCells]
        rw[ks _ _ hr];simp only[Oper.upon,hd];grind [spl,au,gQ]
      · have hq:q=some ⟨b,o',none⟩:=hg.ay Om;subst hq;subst Nv;have Di:=run_firstCells_some (P:=P) w sz m ad m c2 news hlen jb;obtain⟨w',Wc,hA⟩:=fE (P:=P) news 0 (n*sz) l w ⟨b,o',cs,sh⟩ i b (o'+n*sz) ha hs rfl Oi Oz Wb;have hr:(Builtin.append_ #[t,t] o.type #[.slice (some ⟨b,o',none⟩) n cap,.slice (some ad) m c2]).run P w=.ok (.slice (some ⟨b,o',none⟩) (n+m) cap) w':=by
          simp[Builtin.append_,aK hu,rC,Builtin.lenOf,ja,Di,dd,Wc]
        rw[ks _ _ hr];simp only[Oper.upon,hd];grind
  · -- it grows
    have L3:0<m:=Om;have ai5:news≠[]:=by
      intro e;subst e;rcases Nat.mul_eq_zero.1 (show m*sz=0 by simpa using hlen.symm) with h|h<;>omega
    rcases oQ.cells ha with Dh|⟨ad,Nv,jb⟩
    · grind
    subst Nv;have Nw:Builtin.nextslicecap (n+m) cap*i'.bytes≤281474976710656:=growslice_fits Om (by rw[Df];exact hby);have fin:∀(C:Nat) (rD rest:List Value),n+m≤C→rD=cs.take (n*sz)→rest.length=(C-(n+m))*sz→
        nx (a.put (some d) (.slice (some ⟨w.heap.size,0,none⟩) (n+m) C)) (w.drew.alloc (.cells (rD.toArray++news.toArray++rest.toArray) e)):=fun C rD rest hC ho' hr=>by
      have hA:=((ha.drew.alloc (rD.toArray++news.toArray++rest.toArray) e).ly).abE hs;have hol:rD.length=n*sz:=by
        simp_all
      have hCC:C*sz=(n+m)*sz+(C-(n+m))*sz:=by rw[←Nat.add_mul];congr 1;omega
      refine lY _ _ ⟨_,_,⟨some ⟨w.heap.size,0,none⟩,w.heap.size,0,(rD.toArray++news.toArray++rest.toArray).toList,C,⟨?_,.inl rfl⟩,hC,?_,rfl,rfl⟩,hA.put sM _⟩
      · grind
      · have h2:(n+m)*sz=(rD++news).length:=by simp[hol,hlen,Nat.add_mul]
        grind
    have wC:=grownCap_ge w (n+m) cap e;have Dj:∀N,(Builtin.zeroCells zv.cells N).toList.length=N*sz:=fun N=>by simp[Builtin.zeroCells,zV]
    rcases hg.ad with hq|⟨hq,Dk⟩
    · subst hq;have vr:∀j u,(cs.take (n*sz))[j]? =some u→w.cell? ((⟨b,o',none⟩:Addr).add j)=some u:=fun j u hj=>by
        rw[dd];have jz:=ha.st.hl _ (dw _ _ _ hs);rw[List.getElem?_take] at hj;split at hj
        · exact jz.1 _ _ hj
        · cases hj
      have hr:=run_append_grow (P:=P) w t o.type e i' zv hu hi rB ⟨b,o',none⟩ n cap (cs.take (n*sz)) (by
        have:n*sz≤cap*sz:=Nat.mul_le_mul_right _ Ji;rw[List.length_take,vy];omega) vr ad m c2 news (by rw[vy];exact hlen) jb Om Om Nw
      rw[ks _ _ hr];simp only[Oper.upon,hd];have:=fin (grownCap w (n+m) cap e) _ (Builtin.zeroCells zv.cells (grownCap w (n+m) cap e-(n+m))).toList wC rfl (Dj _);omega
    · subst hq;subst Dk;obtain rfl:n=0:=Om;have hr:=run_append_nil (P:=P) w t o.type e i' zv hu hi rB ad m c2 news (by rw[vy];exact hlen) jb Om Om (by
        grind)
      rw[ks _ _ hr];simp only[Oper.upon,hd];have:=fin (grownCap w m 0 e) [] (Builtin.zeroCells zv.cells (grownCap w m 0 e-m)).toList (by simpa using wC) Oi (by simpa using Dj _);simp_all
theorem ai6 {ca:Call} {q2:Option Addr} {sl sc dl dc e nQ:Nat} {zs news:List Value} {sg:au} (i j:Nat) (ho:o.op=.call ca) (hc:ca.callee=.builtin .copy) (gx:evs ρ ca.args.toList=some [.slice (some ⟨sg.b,q,none⟩) dl dc,.slice q2 sl sc]) (vz:ca.argTypes= #[t,t]) (hP:e8 P t=some (e,zs,sz,nQ))
    (hs:nthS i l=some sg) (hq:q=sg.o+j) (oQ:Src l r q2 news) (hlen:news.length=min sl dl*sz) (hj:j+news.length≤sg.cs.length) (h1:(news.all fun u=>u.oneCell')=true) (hd:o.dst=some d) (sM:Nat.blt d K.n=true):
    kB P K ρ l r o (fun ρ' l'=>ρ'=(d,.int .i64 ((min sl dl:Nat):Int))::ρ∧l'=setS i ⟨sg.b,sg.o,spl sg.cs j news,sg.sh⟩ l):=by
  intro a w ha nx Q lY;obtain⟨N,hN⟩:∃N,N=min sl dl:=⟨_,rfl⟩;rw[←hN] at hlen lY;obtain⟨i',zv,hu,hi,rB,lz,vy,Df⟩:=fZ hP;have rC:∀w,(sizeOf e).run P w=.ok sz w:=cC (by simp[eV,hi,vy]);have iz:=kC ha.fr gx;have Wb:∀u ∈ news,u.oneCell'=true:=fun u hu=>List.all_eq_true.1 h1 u hu
  subst hq;have Di:(Builtin.firstCells sz N (.slice q2 sl sc)).run P w=.ok news.toArray w:=by
    rcases oQ.cells ha with Dh|⟨ad,Nv,jb⟩
    · subst Dh;simp at hlen;cases q2 with
      |none=>simp[Builtin.firstCells]
      |some ad=>simp[Builtin.firstCells,loadCells, ←hlen,loadCellsFrom]
    · subst Nv;exact run_firstCells_some (P:=P) w sz _ ad sl sc news hlen jb
  obtain⟨w',Wc,hA⟩:=fE (P:=P) news 0 j l w sg i sg.b (sg.o+j) ha hs rfl Oi hj Wb;unfold Oper.wp;have hr:(Builtin.copy_ #[t,t] o.type #[.slice (some ⟨sg.b,sg.o+j,none⟩) dl dc,.slice q2 sl sc]).run P w=.ok (.int .i64 ((N:Nat):Int)) w':=by
    have:Nat.min sl dl=N:=hN.symm;simp[Builtin.copy_,aK hu,rC,Builtin.lenOf,this,Di,Wc,goInt]
  have e:(execOp a.eval o).run P w=.ok (.value (.int .i64 ((N:Nat):Int))) w':=by
    simp[execOp,ho,resolve,hc,iz,invoke,builtin,vz,hr]
  rw[e];simp only[Oper.upon,hd];exact lY _ _ ⟨_,_,⟨rfl,rfl⟩,hA.put sM _⟩
theorem abF {T:TypeId} {D:TypeDesc} (ho:o.op=.makeInterface T x) (hx:ev ρ x=some v) (hu:P.underlying T=some D) (hD:(match D with| .interface _=>true|_=>false)=false):aG P ρ o (.iface T v):=fun ac ha w=>by
  have:(Instr.makeInterface T v).run P w=.ok (.iface T v) w:=by
    cases D<;>simp at hD<;>simp[Instr.makeInterface,aK hu]
  simp[execOp,ho,bf ha hx,this]
theorem nR {p:Option Addr} {e:TypeId} (ho:o.op=.sliceToArrayPointer t x) (hx:ev ρ x=some (.slice p len cap)) (hu:P.underlying t=some (.array n e)) (h:n≤len):aG P ρ o (.pointer p):=fun ac ha w=>by
  have:¬len<n:=Om;simp[execOp,ho,bf ha hx,Instr.arrayAt,aK hu,this]
theorem ai7 {ca:Call} {X Y:Int} (ho:o.op=.call ca) (hc:ca.callee=.builtin .max) (hx:evs ρ ca.args.toList=some [.int k X,.int k' Y]):aG P ρ o (.int k (max X Y)):=fun ac hac w=>by
  have:(if X<Y then Y else X)=max X Y:=by split<;>omega
  simp[execOp,ho,resolve,hc,kC hac hx,invoke,builtin,Builtin.max_,Builtin.max2,this]
theorem vA {ca:Call} {X Y:Int} (ho:o.op=.call ca) (hc:ca.callee=.builtin .min) (hx:evs ρ ca.args.toList=some [.int k X,.int k' Y]):aG P ρ o (.int k (min X Y)):=fun ac hac w=>by
  have:(if Y<X then Y else X)=min X Y:=by split<;>omega
  simp[execOp,ho,resolve,hc,kC hac hx,invoke,builtin,Builtin.min_,Builtin.min2,this]
end
inductive Pl where
  |nil|stop
  |st (i:Nat) (k:Bool) (rest:Pl)
  |ef (i:Nat) (rest alt:Pl)
  |er (i:Nat) (rest alt:Pl)
def Pl.alts:Pl→List Nat
  | .ef i _ a=>i::a.alts
  | .er i _ a=>i::a.alts
  |_=>[]
def memB (j:Nat):List Nat→Bool
  |[]=>false
  |i::l=>Nat.beq i j||memB j l
theorem Dl {j:Nat}:∀{l:List Nat},memB j l=true→j ∈ l
  |[],h=>by simp[memB] at h
  |i::l,h=>by
    simp only[memB,Bool.or_eq_true] at h;rcases h with h|h
    · simp_all
    · simp_all [Dl]
def Pl.len:Pl→Nat
  | .nil=>0
  | .stop=>0
  | .st _ _ r=>r.len+1
  | .ef _ r a=>max (r.len+1) a.len
  | .er _ r a=>max (r.len+1) a.len
mutual
def Pl.ok (n:Nat) (b:List Nat) (E:Nat):Pl→Nat→Bool
  | .nil,d=>Nat.beq d (Nat.pow 2 n-1)
  | .stop,_=>false
  | .st i k rest,d=>Nat.blt i n && !Nat.testBit d i && oI (nthN i b) d && (!Nat.testBit E i && (!k||allFrom (fun j=>Nat.testBit d j|| !Nat.testBit E j||Nat.testBit (nthN j b) i) 0 n)) && rest.ok n b E (Nat.lor d (Nat.pow 2 i))
  | .ef i rest alt,d=>allFrom (fun j=>Nat.testBit d j||memB j (i::alt.alts)|| !oI (nthN j b) d) 0 n && (Nat.blt i n && !Nat.testBit d i && oI (nthN i b) d && Nat.testBit E i && rest.ok n b E (Nat.lor d (Nat.pow 2 i))) && alt.oks n b E d
  | .er i rest alt,d=>allFrom (fun j=>Nat.testBit d j||memB j (i::alt.alts)|| !oI (nthN j b) d) 0 n && (Nat.blt i n && !Nat.testBit d i && oI (nthN i b) d && !Nat.testBit E i && rest.ok n b E (Nat.lor d (Nat.pow 2 i))) && alt.oks n b E d
def Pl.oks (n:Nat) (b:List Nat) (E:Nat):Pl→Nat→Bool
  | .stop,_=>true
  | .ef i rest alt,d=>(Nat.blt i n && !Nat.testBit d i && oI (nthN i b) d && Nat.testBit E i && rest.ok n b E (Nat.lor d (Nat.pow 2 i))) && alt.oks n b E d
  | .er i rest alt,d=>(Nat.blt i n && !Nat.testBit d i && oI (nthN i b) d && !Nat.testBit E i && rest.ok n b E (Nat.lor d (Nat.pow 2 i))) && alt.oks n b E d
  |_,_=>false
end
def Jj (L:List Oper) (E:Nat) (pl:Pl):Bool:=
  Region.noSelect L.toArray && Nat.ble pl.len L.length && backB 0 L && ie L.toArray (befs [] L) L 0 L && pl.ok L.length (befs [] L) E 0
section
variable {P:Program} {Q:Exit→Act→World→Prop}
def FW (P:Program) (ops:Array Oper) (Q:Exit→Act→World→Prop):Pl→Act→World→Prop
  | .nil,a,w=>Q .normal a w
  | .stop,_,_=>True
  | .st i false rest,a,w=>∃o v,ops[i]? =some o∧Yields P ops o v a∧FW P ops Q rest (a.put o.dst v) w
  | .st i true rest,a,w=>∃o v,ops[i]? =some o∧YieldsAt P ops w o v a∧FW P ops Q rest (a.put o.dst v) w
  | .ef i rest alt,a,w=>wpOp P ops Q i (FW P ops Q rest) a w∧FW P ops Q alt a w
  | .er i rest alt,a,w=>stOp P ops w i (fun a'=>FW P ops Q rest a' w) a∧FW P ops Q alt a w
theorem Bh {L:List Oper} {E:Nat} {Q:Exit→Act→World→Prop} {a:Act} {w:World}:∀(pl:Pl) (d:Nat) (j:Nat),pl.oks L.length (befs [] L) E d=true→j ∈ pl.alts→FW P L.toArray Q pl a w→
    ∃rest,(Nat.blt j L.length && !Nat.testBit d j && oI (nthN j (befs [] L)) d && rest.ok L.length (befs [] L) E (Nat.lor d (Nat.pow 2 j)))=true∧rest.len+1≤pl.len∧((Nat.testBit E j=true∧wpOp P L.toArray Q j (FW P L.toArray Q rest) a w)∨(Nat.testBit E j=false∧stOp P L.toArray w j (fun a'=>FW P L.toArray Q rest a' w) a))
  | .nil,d,j,h,hj,_=>by simp[Pl.oks] at h
  | .stop,d,j,h,hj,_=>by simp[Pl.alts] at hj
  | .st _ _ _,d,j,h,hj,_=>by simp[Pl.oks] at h
  | .ef i rest alt,d,j,h,hj,hw=>by
    simp only[Pl.oks] at h;rw[Bool.and_eq_true] at h;simp only[Pl.alts,List.mem_cons] at hj;by_cases e:j=i
    · subst e;have h1:=h.1;simp only[Bool.and_eq_true] at h1 ⊢;exact⟨rest,⟨⟨h1.1.1.1,h1.1.1.2⟩,h1.2⟩,by simp only[Pl.len];omega,.inl ⟨h1.1.2,hw.1⟩⟩
    · obtain⟨r,h1,h2,h3⟩:=Bh alt d j h.2 (hj.resolve_left e) hw.2;grind [Pl.len]
  | .er i rest alt,d,j,h,hj,hw=>by
    simp only[Pl.oks] at h;rw[Bool.and_eq_true] at h;simp only[Pl.alts,List.mem_cons] at hj;by_cases e:j=i
    · subst e;have h1:=h.1;simp only[Bool.and_eq_true] at h1 ⊢;exact⟨rest,⟨⟨h1.1.1.1,h1.1.1.2⟩,h1.2⟩,by simp only[Pl.len];omega,.inr ⟨by simpa using h1.1.2,hw.1⟩⟩
    · obtain⟨r,h1,h2,h3⟩:=Bh alt d j h.2 (hj.resolve_left e) hw.2;grind [Pl.len]
theorem YV {L:List Oper} {d i:Nat} {listed:Array Bool} (nM:backB 0 L=true) (wa:ie L.toArray (befs [] L) L 0 L=true) (hl:UW L d listed) (eU:i<L.length) (uH:d.testBit i=false) (l7:oI (nthN i (befs [] L)) d=true):
    i ∈ Region.ready .any L.toArray listed∧NB .any L.toArray listed i L[i] (fun j=>j=i∨(nthN j (befs [] L)).testBit i=true):=by
  have VI:L[i]? =some L[i]:=by simp[eU]
  have LX:L.toArray[i]? =some L[i]:=by simpa using VI
  have dir:∀e ∈ L[i].after,Region.binds .any e=true→listed.getD e.on false=true:=fun e he hb=>by
    have h1:=ry L 0 nM i _ VI e he hb;rw[Nat.zero_add] at h1;have h2:=jM l7 (wZ VI he hb h1);have h3:=hl.at_ e.on Om;rw[h2] at h3;have:e.on<listed.size:=by rw[hl.size];omega
    grind
  have mV:i ∈ Region.ready .any L.toArray listed:=mem_ready.2 ⟨by rw[hl.at_ i eU];exact uH,_,LX,dir⟩;have isz:L.toArray.size=L.length:=Oi;have nb:NB .any L.toArray listed i L[i] (fun j=>j=i∨(nthN j (befs [] L)).testBit i=true):=by
    refine⟨fun j hj hb=>?_,fun j oj hj hb v9=>?_,fun j oj hj y4 hb=>?_⟩
    · rw[isz] at hj;rw[hl.at_ j hj];rcases hb with rfl|hb
      · exact uH
      · cases hd:d.testBit j with
        |false=>rfl
        |true=>rw[jM (hl.closed j hj hd) hb] at uH;cases uH
    · grind [uG]
    · have Mz:L[j]? =some oj:=by simpa using hj
      have YK:j<L.length:=by
        grind
      have h1:=lJ L 0 wa i _ VI;rw[Nat.zero_add] at h1;have h2:=oJ L 0 h1 j oj Mz;simp only[Nat.zero_add] at h2;rcases h2 with h2|h2|h2|h2
      · grind
      · rw[hl.at_ j YK,jM l7 h2] at y4;cases y4
      · omega
      · exact h2
  grind
theorem vB {L:List Oper} {E:Nat} (nM:backB 0 L=true) (wa:ie L.toArray (befs [] L) L 0 L=true) {fuel:Nat} {pl:Pl} {d i:Nat} {listed:Array Bool} {a:Act} {w:World} (hm:i ∈ pl.alts)
    (ih:∀(pl:Pl) (d:Nat) (listed:Array Bool) (a:Act) (w:World),pl.ok L.length (befs [] L) E d=true→UW L d listed→pl.len≤fuel→FW P L.toArray Q pl a w→CV P .any L.toArray (fun j=>Nat.testBit E j) Q fuel listed a w)
    (sN:allFrom (fun j=>Nat.testBit d j||memB j pl.alts|| !oI (nthN j (befs [] L)) d) 0 L.length=true) (asD:pl.oks L.length (befs [] L) E d=true) (hl:UW L d listed) (hf:pl.len≤fuel+1) (h:FW P L.toArray Q pl a w):
    CV P .any L.toArray (fun j=>Nat.testBit E j) Q (fuel+1) listed a w:=by
  have step:∀j ∈ pl.alts,j ∈ Region.ready .any L.toArray listed∧((Nat.testBit E j=true∧wpOp P L.toArray Q j (CV P .any L.toArray (fun j=>Nat.testBit E j) Q fuel (listed.setIfInBounds j true)) a w)∨(Nat.testBit E j=false∧stOp P L.toArray w j (fun a'=>CV P .any L.toArray (fun j=>Nat.testBit E j) Q fuel (listed.setIfInBounds j true) a' w) a)):=by
    intro j hj;obtain⟨rj,h1,h2,h3⟩:=Bh _ d j asD hj h;simp only[Bool.and_eq_true] at h1;obtain⟨⟨⟨CZ,sM⟩,l7⟩,hrj⟩:=h1;have eU:j<L.length:=Nat.le_of_ble_eq_true CZ;have uH:d.testBit j=false:=by simpa using sM
    obtain⟨mV,nb⟩:=YV nM wa hl eU uH l7;refine⟨mV,?_⟩;rcases h3 with ⟨h4,h5⟩|⟨h4,h5⟩
    · exact .inl ⟨h4,wpOp_mono (fun a' w' h'=>ih rj _ _ a' w' hrj (hl.put eU l7) Om h') h5⟩
    · exact .inr ⟨h4,stOp_mono (fun a' h'=>ih rj _ _ a' w hrj (hl.put eU l7) Om h') h5⟩
  refine⟨fun h0=>?_,fun j hj=>?_⟩
  · grind
  · have hm:j ∈ pl.alts:=by
      obtain⟨y4,oj,A',asE⟩:=mem_ready.1 hj;have YK:j<L.length:=by simpa using (Array.getElem?_eq_some_iff.1 A').1
      have h1:=iU _ _ sN j Om Om;rw[hl.at_ j YK] at y4;simp only[y4,Bool.false_or] at h1;rw[Bool.or_eq_true] at h1;rcases h1 with h1|h1
      · exact Dl h1
      · exfalso
        -- all that j waits for is done
        have asF:L[j]? =some oj:=by simpa using A'
        have:oI (nthN j (befs [] L)) d=true:=by
          show Nat.beq (nthN j (befs [] L)&&&d) (nthN j (befs [] L))=true;have e:nthN j (befs [] L)&&&d=nthN j (befs [] L):=by
            apply Nat.eq_of_testBit_eq;intro k;rw[Nat.testBit_and];cases hk:(nthN j (befs [] L)).testBit k with
            |false=>rfl
            |true=>
              obtain⟨e,he,hb,eU,hor⟩:=uG asF hk;have hd:=asE e he hb;have ai8:d.testBit e.on=true:=by
                have h3:=hl.at_ e.on Om;grind
              rcases hor with h4|h4
              · grind
              · have:=hl.closed e.on Om ai8;grind [jM]
          simp_all
        grind
    grind
theorem FX {L:List Oper} {E:Nat} (oG:Region.noSelect L.toArray=true) (nM:backB 0 L=true) (wa:ie L.toArray (befs [] L) L 0 L=true)
    (hQ:∀c a w (d:Nat) v,Q (.panic c) (a.put (some d) v) w→Q (.panic c) a w):
    ∀(fuel:Nat) (pl:Pl) (d:Nat) (listed:Array Bool) (a:Act) (w:World),pl.ok L.length (befs [] L) E d=true→UW L d listed→pl.len≤fuel→FW P L.toArray Q pl a w→
      CV P .any L.toArray (fun j=>Nat.testBit E j) Q fuel listed a w:=by
  intro fuel;have isz:L.toArray.size=L.length:=Oi;induction fuel with
  |zero=>
    intro pl d listed a w hs hl hf h;cases pl with
    |nil=>
      refine wW ?_ h 0;have hd:d=2^L.length-1:=Nat.eq_of_beq_eq_true hs;apply List.eq_nil_iff_forall_not_mem.2;intro j hj;obtain⟨y4,o,ho,_⟩:=mem_ready.1 hj;have eU:j<L.length:=by simpa using (Array.getElem?_eq_some_iff.1 ho).1
      rw[hl.at_ j eU,hd,Nat.testBit_two_pow_sub_one] at y4;grind
    |stop=>simp[Pl.ok] at hs
    |st i k rest=>simp[Pl.len] at hf
    |ef i rest alt=>simp only[Pl.len] at hf;omega
    |er i rest alt=>simp only[Pl.len] at hf;omega
  |succ fuel ih=>
    intro pl d listed a w hs hl hf h;cases pl with
    |nil=>
      refine wW ?_ h (fuel+1);have hd:d=2^L.length-1:=Nat.eq_of_beq_eq_true hs;apply List.eq_nil_iff_forall_not_mem.2;intro j hj;obtain⟨y4,o,ho,_⟩:=mem_ready.1 hj;have eU:j<L.length:=by simpa using (Array.getElem?_eq_some_iff.1 ho).1
      rw[hl.at_ j eU,hd,Nat.testBit_two_pow_sub_one] at y4;grind
    |stop=>simp[Pl.ok] at hs
    |st i k rest=>
      simp only[Pl.ok,Bool.and_eq_true] at hs;obtain⟨⟨⟨⟨CZ,sM⟩,l7⟩,hE',hk⟩,sO⟩:=hs;have eU:i<L.length:=Nat.le_of_ble_eq_true CZ;have uH:d.testBit i=false:=by simpa using sM
      have hE:Nat.testBit E i=false:=by simpa using hE'
      have LX:L.toArray[i]? =some L[i]:=by simp[eU]
      obtain⟨mV,nb⟩:=YV nM wa hl eU uH l7;have UX:=hl.put eU l7;simp only[Pl.len] at hf;cases k with
      |false=>
        obtain⟨o,v,ho,hy,hw⟩:=h;have:o=L[i]:=Option.some.inj (ho.symm.trans LX);subst this;refine CX LX (Region.noSelect_spec oG) hE ?_ fuel listed a w nb mV hy (ih rest _ _ _ w sO UX Om hw);intro c a w hq;cases hd:L[i].dst with
        |none=>rw[hd] at hq;exact hq
        |some d'=>rw[hd] at hq;exact hQ c a w d' v hq
      |true=>
        obtain⟨o,v,ho,hy,hw⟩:=h;have:o=L[i]:=Option.some.inj (ho.symm.trans LX);subst this;refine CW LX (Region.noSelect_spec oG) hE (.inl rfl) fuel listed a w nb ?_ mV hy (ih rest _ _ _ w sO UX Om hw);intro j hj y4 hEj;rw[isz] at hj;have h1:=iU _ _ (by simpa using hk) j Om Om;rw[hl.at_ j hj] at y4;grind
    |ef i rest alt=>
      simp only[Pl.ok] at hs;rw[Bool.and_eq_true,Bool.and_eq_true] at hs;obtain⟨⟨sN,hi⟩,halt⟩:=hs;exact vB nM wa (pl:=.ef i rest alt) List.mem_cons_self ih sN (by simp only[Pl.oks];rw[Bool.and_eq_true];exact⟨hi,halt⟩) hl hf h
    |er i rest alt=>
      simp only[Pl.ok] at hs;rw[Bool.and_eq_true,Bool.and_eq_true] at hs;obtain⟨⟨sN,hi⟩,halt⟩:=hs;exact vB nM wa (pl:=.er i rest alt) List.mem_cons_self ih sN (by simp only[Pl.oks];rw[Bool.and_eq_true];exact⟨hi,halt⟩) hl hf h
theorem FY {L:List Oper} {id:Nat} (E:Nat) (pl:Pl) (hm:P.follows .mixedOrders=true) (hB:Jj L E pl=true)
    (hQ:∀c a w (d:Nat) v,Q (.panic c) (a.put (some d) v) w→Q (.panic c) a w) {a:Act} {w:World} (h:FW P L.toArray Q pl a w.drew):(Code.region id L.toArray true).wp P Q a w:=by
  simp only[Jj,Bool.and_eq_true] at hB;obtain⟨⟨⟨⟨h1,h0⟩,h2⟩,h3⟩,h4⟩:=hB;have VJ:pl.len≤L.length:=Nat.le_of_ble_eq_true h0;refine vt (E:=fun j=>Nat.testBit E j) hm ?_;have hl:UW L 0 (Array.replicate L.toArray.size false):=⟨Oi,fun j hj=>by simp[hj],fun j hj hd=>by simp at hd⟩;grind [FX]
end
section
variable {P:Program} {K:Kx} {Q:Exit→Act→World→Prop} {ρ:aC} {l r:List au} {L:List Oper} {o:Oper} {d i:Nat} {v:Value} {os alt:Pl}
def GT (P:Program) (K:Kx) (Q:Exit→Act→World→Prop) (L:List Oper) (pl:Pl) (ρ:aC) (l r:List au):Prop:=∀a w,At K ρ l r a w→FW P L.toArray Q pl a w
theorem G.tree {id:Nat} {L:List Oper} (E:Nat) (pl:Pl) (hm:P.follows .mixedOrders=true) (hB:Jj L E pl=true) (hQ:∀c a w (d:Nat) v,Q (.panic c) (a.put (some d) v) w→Q (.panic c) a w) (h:GT P K Q L pl ρ l r):G P K Q (.region id L.toArray true) ρ l r:=
  fun a w ha=>FY E pl hm hB hQ (h a w.drew ha.drew)
theorem GT.y (h:aG P ρ o v) (hi:nth i L=some o) (hw:want L ρ o=some true) (hd:o.dst=some d) (hn:Nat.blt d K.n=true) (k:GT P K Q L os ((d,v)::ρ) l r):GT P K Q L (.st i false os) ρ l r:=
  fun a w ha=>⟨o,v,iT hi,.inl ⟨gO hw ha.fr,fun w'=>h a ha.fr w'⟩,by rw[hd];exact k _ _ (ha.put hn v)⟩
theorem GT.rd (h:nN P ρ l r o v) (hi:nth i L=some o) (hw:want L ρ o=some true) (hd:o.dst=some d) (hn:Nat.blt d K.n=true) (k:GT P K Q L os ((d,v)::ρ) l r):GT P K Q L (.st i true os) ρ l r:=
  fun a w ha=>⟨o,v,iT hi,.inl ⟨gO hw ha.fr,.inl (h a w ha.fr ha.st)⟩,by rw[hd];exact k _ _ (ha.put hn v)⟩
theorem GT.skip (hi:nth i L=some o) (hw:want L ρ o=some false) (hd:o.dst=some d) (hn:Nat.blt d K.n=true) (k:GT P K Q L os ((d,undef)::ρ) l r):GT P K Q L (.st i false os) ρ l r:=
  fun a w ha=>⟨o,undef,iT hi,.inr ⟨gO hw ha.fr,rfl⟩,by rw[hd];exact k _ _ (ha.put hn undef)⟩
theorem GT.dj {N:aC→List au→Prop} (h:kB P K ρ l r o N) (hi:nth i L=some o) (hw:want L ρ o=some true) (k:∀ρ' l',N ρ' l'→GT P K Q L os ρ' l' r) (ha:GT P K Q L alt ρ l r):GT P K Q L (.ef i os alt) ρ l r:=by
  intro a w hA;refine⟨?_,ha a w hA⟩;show wpOp P L.toArray Q i (FW P L.toArray Q os) a w;unfold wpOp;rw[iT hi];simp only[];rw[if_pos (gO hw hA.fr)];left;exact h a w hA _ _ fun a' w' ⟨ρ',l',hN,hA'⟩=>k ρ' l' hN a' w' hA'
theorem GT.erd (h:nN P ρ l r o v) (hi:nth i L=some o) (hw:want L ρ o=some true) (hd:o.dst=some d) (hn:Nat.blt d K.n=true) (k:GT P K Q L os ((d,v)::ρ) l r) (ha:GT P K Q L alt ρ l r):GT P K Q L (.ef i os alt) ρ l r:=by
  refine GT.dj (N:=fun ρ' l'=>ρ'=(d,v)::ρ∧l'=l) ?_ hi hw (fun ρ' l' ⟨h1,h2⟩=>by subst h1;subst h2;exact k) ha;intro a w hA nx Q lY;unfold Oper.wp;rw[h a w hA.fr hA.st];simp only[Oper.upon,hd];exact lY _ _ ⟨_,_,⟨rfl,rfl⟩,hA.put hn v⟩
theorem GT.er (h:nN P ρ l r o v) (hi:nth i L=some o) (hw:want L ρ o=some true) (hd:o.dst=some d) (hn:Nat.blt d K.n=true) (k:GT P K Q L os ((d,v)::ρ) l r) (ha:GT P K Q L alt ρ l r):GT P K Q L (.er i os alt) ρ l r:=
  fun a w hA=>⟨(show YieldsAt P L.toArray w o v a from .inl ⟨gO hw hA.fr,.inl (h a w hA.fr hA.st)⟩).stOp (iT hi) (by rw[hd];exact k _ _ (hA.put hn v)),ha a w hA⟩
theorem GT.stop:GT P K Q L .stop ρ l r:=fun _ _ _=>trivial
theorem GT.nil (h:GQ K Q .normal ρ l r):GT P K Q L .nil ρ l r:=fun a w ha=>h a w ha
end
section
variable {P:Program} {K:Kx} {Q:Exit→Act→World→Prop} {ρ:aC} {l r:List au} {o:Oper} {v:Value} {x y z:Operand} {t s f sz n m c lo hi len cap b q j d:Nat} {k k':IntKind}
theorem lA (xs ys:List Nat):aa k (xs++ys)=aa k xs++aa k ys:=by simp[aa]
theorem Nx (n x:Nat):List.replicate n (.int k ((x:Nat):Int))=aa k (List.replicate n x):=by simp[aa]
theorem eh (xs:List Nat):((aa k xs).all fun u=>u.oneCell')=true:=by
  simp[aa,Value.oneCell']
theorem dk (xs:List Nat) (j m:Nat):((aa k xs).drop j).take (aa k ((xs.drop j).take m)).length=aa k ((xs.drop j).take m):=by
  simp_all [aa]
theorem GS.ai9 {q:Option Addr} {b o:Nat} {cs:List Value} (h:GS q b o cs 1 cap) {j:Nat} (hj:j<cap):j<cs.length:=by have:=h.len;omega
theorem FZ {xs:List Nat} (h:j<xs.length):((aa k xs).drop j).take 1=[.int k ((xs.getD j 0:Nat):Int)]:=by
  have:(aa k xs).drop j=.int k ((xs.getD j 0:Nat):Int)::(aa k xs).drop (j+1):=by
    rw[List.drop_eq_getElem_cons (by simpa using h)];congr 1;have:=aM (k:=k) h;grind
  rw[this];rfl
theorem gu {ca:Call} {q q2:Option Addr} {b o' c2 e nQ:Nat} {cs zs:List Value} {xs ys:List Nat} {sh:Option (TypeId × Nat)} (i:Nat) (ho:o.op=.call ca) (hc:ca.callee=.builtin .append) (gx:evs ρ ca.args.toList=some [.slice q n cap,.slice q2 m c2]) (vz:ca.argTypes= #[t,t]) (hP:e8 P t=some (e,zs,1,nQ)) (hz:zs.length=1)
    (hs:nthS i l=some ⟨b,o',cs,sh⟩) (hg:GS q b o' cs 1 cap) (hp:cs.take n=aa k xs) (oQ:Src l r q2 (aa k ys)) (hn:n≤cap∧(n+m)*nQ≤140737488355328∧n+m≤9223372036854775807∧ys.length=m) (hd:o.dst=some d) (sM:Nat.blt d K.n=true):
    kB P K ρ l r o (fun ρ' l'=>∃q' b' o' gM fY,GS q' b' o' gM 1 fY∧n+m≤fY∧gM.take (n+m)=aa k (xs++ys)∧ρ'=(d,.slice q' (n+m) fY)::ρ∧l'=setS i ⟨b',o',gM,none⟩ l):=by
  intro a w ha nx Q lY;refine ai4 (K:=K) i ho hc gx vz hP hz hs hg oQ ⟨hn.1,Om,hn.2.1,hn.2.2.1⟩ (by simp[hn.2.2.2]) (eh _) hd sM a w ha nx Q fun a' w' ⟨ρ',l',⟨q',b',FB,gM,fY,h1,h2,h3,h4,h5⟩,h6⟩=>lY a' w' ⟨ρ',l',⟨q',b',FB,gM,fY,h1,h2,?_,h4,h5⟩,h6⟩
  grind [lA]
theorem kt {kl kc:IntKind} {e nQ:Nat} (ho:o.op=.makeSlice t x y) (hx:ev ρ x=some (.int kl ((m:Nat):Int))) (hy:ev ρ y=some (.int kc ((c:Nat):Int))) (hP:e8 P t=some (e,[.int k ((0:Nat):Int)],1,nQ)) (h:m≤c∧nQ*c≤281474976710656∧c≤9223372036854775807) (hd:o.dst=some d) (hn:Nat.blt d K.n=true):
    kB P K ρ l r o (fun ρ' l'=>∃b,ρ'=(d,.slice (some ⟨b,0,none⟩) m c)::ρ∧l'=⟨b,0,aa k (List.replicate c 0),none⟩::l):=by
  have:=asB (K:=K) (l:=l) (r:=r) ho hx hy hP h hd hn;grind [Nx]
theorem fc {e:Nat} {zs vs:List Value} {pv:List (Nat × Value)} {ps:List (Nat × Operand)} (nQ:Nat) (ho:o.op=.buildSlice t n ps.toArray) (L4:evs ρ (ps.map (·.2))=some (pv.map (·.2))∧ps.map (·.1)=pv.map (·.1)) (hP:e8 P t=some (e,zs,sz,nQ)) (hn:n*sz≤16777216)
    (hf:Instr.fill (fun i=>some (i*sz,sz)) ((Array.range (n*sz)).map (zs.toArray[· %zs.toArray.size]!)) pv=some vs.toArray) (hd:o.dst=some d) (sM:Nat.blt d K.n=true):
    kB P K ρ l r o (fun ρ' l'=>∃b,ρ'=(d,.slice (some ⟨b,0,none⟩) n n)::ρ∧l'=⟨b,0,vs,none⟩::l):=by
  intro a w ha nx Q lY;obtain⟨i,zv,hu,hi,rB,lz,vy,hby⟩:=fZ hP;have rC:∀w,(sizeOf e).run P w=.ok sz w:=cC (by simp[eV,hi,vy]);have hzr:∀w,(zeroValue e).run P w=.ok zv w:=fun w=>by simp[zeroValue,j6 hi,rB]
  have Dj:zv.cells=zs.toArray:=by apply Array.toList_inj.1;simpa using lz
  have hpv:ps.map (fun p=>(p.1,a.eval p.2))=pv:=by
    have h1:=oM ha.fr _ _ L4.1;have h2:=L4.2;clear hf L4 ho;induction ps generalizing pv with
    |nil=>cases pv with
      |nil=>rfl
      |cons=>simp at h2
    |cons p ps ih=>cases pv with
      |nil=>simp at h2
      |cons u us=>
        grind
  have aHw:(ps.toArray.map fun (p:Nat × Operand)=>(p.1,a.eval p.2)).toList=pv:=by simpa using hpv
  unfold Oper.wp;have jb:(Array.range (n*sz)).map ((if n*sz=0 then #[] else zv.cells)[· %(if n*sz=0 then #[] else zv.cells).size]!)=(Array.range (n*sz)).map (zs.toArray[· %zs.toArray.size]!):=by
    grind
  have he:(execOp a.eval o).run P w=.ok (.value (.slice (some ⟨w.heap.size,0,none⟩) n n)) (w.alloc (.cells vs.toArray e)):=by
    have aja:¬n*sz>2^24:=Om;by_cases h0:n*sz=0
    · rw[h0] at hf aja;simp only[execOp,ho];have hr0:Array.range 0= #[]:=rfl;simp only[hr0,Array.map_empty] at hf;simp[Instr.buildSlice,aK hu,rC,h0,newRow,hr0,hpv,hf]
    · simp only[execOp,ho];simp[Instr.buildSlice,aK hu,rC,hzr,h0,aja,newRow,Dj] at hf ⊢;simp_all
  rw[he];simp only[Oper.upon,hd];refine lY _ _ ⟨_,_,⟨w.heap.size,rfl,rfl⟩,?_⟩;exact((ha.alloc vs.toArray e).ly).put sM (.slice (some ⟨w.heap.size,0,none⟩) n n)
def jX (P:Program) (t:Nat):Option (List (Nat × Nat)):=
  match P.underlying t with
  |some (.struct fs)=>fs.toList.mapM fun f=>(eV P f.type).map fun s=>(f.offset,s)
  |_=>none
theorem run_places (P:Program) (w:World):∀(fs:List Field) (ps:List (Nat × Nat)),fs.mapM (fun f=>(eV P f.type).map fun s=>(f.offset,s))=some ps→(fs.mapM fun f=>(do pure (f.offset, ←sizeOf f.type):Sem (Nat × Nat))).run P w=.ok ps w
  |[],ps,h=>by simp at h;subst h;simp
  |f::fs,ps,h=>by
    rw[List.mapM_cons] at h;cases hs:eV P f.type with
    |none=>simp[hs] at h
    |some s=>
      have hsr:=cC hs w;cases hr:fs.mapM (fun f=>(eV P f.type).map fun s=>(f.offset,s)) with
      |none=>simp[hs,hr] at h
      |some rs=>
        simp[hs,hr] at h;subst h;have ih:=run_places P w fs rs hr;simp_all
theorem we {zs vs:List Value} {pl:List (Nat × Nat)} {pv:List (Nat × Value)} {ps:List (Nat × Operand)} (ho:o.op=.build t ps.toArray) (L4:evs ρ (ps.map (·.2))=some (pv.map (·.2))∧ps.map (·.1)=pv.map (·.1)) (hS:jX P t=some pl) (hZ:vv P t=some zs)
    (hf:Instr.fill (pl.toArray[·]?) zs.toArray pv=some vs.toArray):aG P ρ o (.agg vs.toArray):=by
  intro a ha w;have hpv:ps.map (fun p=>(p.1,a.eval p.2))=pv:=by
    have h1:=oM ha _ _ L4.1;have h2:=L4.2;clear hf L4 ho;induction ps generalizing pv with
    |nil=>cases pv with
      |nil=>rfl
      |cons=>simp at h2
    |cons p ps ih=>cases pv with
      |nil=>simp at h2
      |cons u us=>
        grind
  unfold vv at hZ;cases hi:P.info? t with
  |none=>simp[hi] at hZ
  |some i=>
    cases rB:i.zero with
    |none=>simp[hi,rB] at hZ
    |some zv=>
      simp[hi,rB] at hZ;have Dj:zv.cells=zs.toArray:=by apply Array.toList_inj.1;simpa using hZ
      unfold jX at hS;cases hu:P.underlying t with
      |none=>simp[hu] at hS
      |some D=>
        cases D<;>simp[hu] at hS;rename_i fs;have hm:=run_places P w fs.toList pl hS;have hzr:(zeroValue t).run P w=.ok zv w:=by simp[zeroValue,j6 hi,rB]
        simp only[execOp,ho];simp only[Instr.build,Sem.run_bind,hzr,Result.andThen_ok,aK hu,Array.mapM_eq_mapM_toList,Sem.run_map];simp_all
theorem F0 (xs:List Nat) (n:Nat):(aa k xs).take n=aa k (xs.take n):=by simp[aa,List.map_take]
def cK (xs:List Nat) (j:Nat) (ys:List Nat):List Nat:=xs.take j++ys++xs.drop (j+ys.length)
theorem fj (xs ys:List Nat) (j:Nat) (h:j+ys.length≤xs.length):spl (aa k xs) j (aa k ys)=aa k (cK xs j ys):=by
  simp_all [xi,cK,aa]
theorem aV {xs ys:List Nat} {j:Nat} (h:j+ys.length≤xs.length):(cK xs j ys).length=xs.length:=by
  grind [cK]
theorem kb {ca:Call} {q2:Option Addr} {sl sc dl dc e nQ:Nat} {zs:List Value} {xs ys:List Nat} {sg:au} (i j:Nat) (ho:o.op=.call ca) (hc:ca.callee=.builtin .copy) (gx:evs ρ ca.args.toList=some [.slice (some ⟨sg.b,q,none⟩) dl dc,.slice q2 sl sc]) (vz:ca.argTypes= #[t,t]) (hP:e8 P t=some (e,zs,1,nQ))
    (hs:nthS i l=some sg) (hq:q=sg.o+j) (oQ:Src l r q2 (aa k ys)) (hlen:ys.length=min sl dl) (CA:sg.cs=aa k xs∧j+ys.length≤xs.length) (hd:o.dst=some d) (sM:Nat.blt d K.n=true):
    kB P K ρ l r o (fun ρ' l'=>ρ'=(d,.int .i64 ((min sl dl:Nat):Int))::ρ∧l'=setS i ⟨sg.b,sg.o,aa k (cK xs j ys),sg.sh⟩ l):=by
  have:=ai6 (K:=K) i j ho hc gx vz hP hs hq oQ (by simp[hlen]) (by rw[CA.1];simpa using CA.2) (eh _) hd sM;grind [fj]
end
theorem uN {m n:Nat} (h:m<256) (k:n<256):m|||n<256:=Nat.or_lt_two_pow (n:=8) h k
theorem bD {m n:Nat} (h:m<4294967296) (k:n<4294967296):m|||n<4294967296:=Nat.or_lt_two_pow (n:=32) h k
theorem cq {m n:Nat} (h:m<18446744073709551616) (k:n<18446744073709551616):m|||n<18446744073709551616:=Nat.or_lt_two_pow (n:=64) h k
def Bytes (xs:List Nat):Prop:=∀x ∈ xs,x<256
theorem Bytes.at_ {xs:List Nat} (h:Bytes xs) (i:Nat):xs.getD i 0<256:=by
  rw[List.getD_eq_getElem?_getD];rcases Nat.lt_or_ge i xs.length with hi|hi
  · simp only[hi,List.getElem?_eq_getElem,Option.getD_some];exact h _ (List.getElem_mem hi)
  · simp[List.getElem?_eq_none hi]
def eR (xs:List Nat) (k:Nat):Nat:=((xs.getD k 0|||xs.getD (k+1) 0*2^8%4294967296)|||xs.getD (k+2) 0*2^16%4294967296)|||xs.getD (k+3) 0*2^24%4294967296
theorem dJ {xs:List Nat} (h:Bytes xs) (k:Nat):eR xs k<4294967296:=by
  have h0:=h.at_ k;unfold eR;exact bD (bD (bD Om Om) Om) Om
def mg (xs:List Nat) (k:Nat):Nat:=((((((xs.getD k 0|||xs.getD (k+1) 0*2^8%18446744073709551616)|||xs.getD (k+2) 0*2^16%18446744073709551616)|||xs.getD (k+3) 0*2^24%18446744073709551616)|||xs.getD (k+4) 0*2^32%18446744073709551616)|||xs.getD (k+5) 0*2^40%18446744073709551616)|||xs.getD (k+6) 0*2^48%18446744073709551616)|||xs.getD (k+7) 0*2^56%18446744073709551616
theorem m9 {xs:List Nat} (h:Bytes xs) (k:Nat):mg xs k<18446744073709551616:=by
  have h0:=h.at_ k;unfold mg;exact cq (cq (cq (cq (cq (cq (cq Om Om) Om) Om) Om) Om) Om) Om
def aq (n:Nat):Nat:=if n=0 then 0 else Nat.log2 n+1
theorem Ny (n k:Nat) (h:2^k≤n):Nat.log2 n=k+Nat.log2 (n/2^k):=by
  induction k generalizing n with
  |zero=>simp
  |succ k ih=>
    have h2:2≤n:=Nat.le_trans (by have:1≤2^k:=Nat.one_le_two_pow;rw[Nat.pow_succ];omega) h;rw[Nat.log2_def,if_pos h2,ih (n/2) (by rw[Nat.le_div_iff_mul_le Om, ←Nat.pow_succ];exact h),Nat.div_div_eq_div_mul,show 2*2^k=2^(k+1) by rw[Nat.pow_succ,Nat.mul_comm]];omega
theorem sV (n k:Nat) (h:2^k≤n):aq n=k+aq (n/2^k):=by
  have h1:n/2^k≠0:=by
    have:=(Nat.le_div_iff_mul_le (x:=1) (y:=n) (Nat.pow_pos (n:=k) (show 0<2 by omega))).2 Om;omega
  have h0:n≠0:=by intro e;subst e;simp at h1
  unfold aq;rw[if_neg h0,if_neg h1,Ny n k h];omega
theorem cL {n k:Nat} (h:n<2^k):aq n≤k:=by
  unfold aq;split
  · omega
  · rename_i h0;have:=(Nat.log2_lt h0).2 h;omega
def Nz:ByteArray:=⟨#[0,1,2,2,3,3,3,3,4,4,4,4,4,4,4,4,5,5,5,5,5,5,5,5,5,5,5,5,5,5,5,5,6,6,6,6,6,6,6,6,6,6,6,6,6,6,6,6,6,6,6,6,6,6,6,6,6,6,6,6,6,6,6,6,7,7,7,7,7,7,7,7,7,7,7,7,7,7,7,7,7,7,7,7,7,7,7,7,7,7,7,7,7,7,7,7,7,7,7,7,7,7,7,7,7,7,7,7,7,7,7,7,7,7,7,7,7,7,7,7,7,7,7,7,7,7,7,7,8,8,8,8,8,8,8,8,8,8,8,8,8,8,8,8,8,8,8,8,8,8,8,8,8,8,8,8,8,8,8,8,8,8,8,8,8,8,8,8,8,8,8,8,8,8,8,8,8,8,8,8,8,8,8,8,8,8,8,8,8,8,8,8,8,8,8,8,8,8,8,8,8,8,8,8,8,8,8,8,8,8,8,8,8,8,8,8,8,8,8,8,8,8,8,8,8,8,8,8,8,8,8,8,8,8,8,8,8,8,8,8,8,8,8,8,8,8,8,8,8,8,8,8,8,8,8,8]⟩
theorem wD:∀m:Nat,m<256→Nz[m]?.map UInt8.toNat=some (aq m):=by decide+kernel
theorem dy {n:Nat} (h:0<n):0<aq n:=by
  unfold aq;rw[if_neg Om];omega
theorem sW {n:Nat} (h:0<n):2^(aq n-1)≤n:=by
  unfold aq;rw[if_neg Om];exact Nat.log2_self_le Om
theorem ir (n:Nat):n<2^aq n:=by
  unfold aq;split
  · rename_i h;subst h;decide
  · exact Nat.lt_log2_self
structure BR where
  off:Nat
  val:Nat
  rd:Nat
def BR.adv (s:BR) (n:Nat):BR:=⟨s.off,s.val*2^(n&&&63)%18446744073709551616,(s.rd+n)%256⟩
def BR.eW (xs:List Nat) (k:Nat) (s:BR):BR:=⟨s.off-4,s.val|||eR xs (k+(s.off-4))*2^(s.rd-32)%18446744073709551616,s.rd-32⟩
def BR.aX (xs:List Nat) (k:Nat) (s:BR):BR:=if s.rd<32 then s else s.eW xs k
def BR.br (xs:List Nat) (k:Nat) (s:BR):BR:=⟨s.off-1,s.val|||xs.getD (k+(s.off-1)) 0*2^(s.rd-8)%18446744073709551616,s.rd-8⟩
def BR.loads (xs:List Nat) (k:Nat):Nat→BR→BR
  |0,s=>s
  |n+1,s=>(BR.loads xs k n s).br xs k
def BR.fill (t:Nat) (xs:List Nat) (k:Nat) (s:BR):BR:=if s.rd<32 then s else if t≤s.off then s.eW xs k else BR.loads xs k s.off s
def BR.start (t:Nat) (xs:List Nat) (k len:Nat):BR:=if 8≤len then ⟨len-8,mg xs (k+(len-8)),0⟩ else BR.fill t xs k (BR.fill t xs k ⟨len,0,64⟩)
def BR.init (t:Nat) (xs:List Nat) (k len:Nat):BR:=(BR.start t xs k len).adv (8-(aq (xs.getD (k+(len-1)) 0)-1))
def BR.abG (s:BR) (n:Nat):Nat:=s.val/2^((64-n)&&&63)%65536
def BR.left (s:BR):Nat:=s.off*8+(64-s.rd)
structure BR.OK (len:Nat) (s:BR):Prop where
  off:s.off≤len
  val:s.val<18446744073709551616
  rd:s.rd<256
theorem BR.OK.eW {xs:List Nat} {k len:Nat} {s:BR} (h:s.OK len):(s.eW xs k).OK len:=
  ⟨by have:=h.off;simp[BR.eW];omega,cq h.val (Nat.mod_lt _ Od),by have:=h.rd;simp[BR.eW];omega⟩
theorem BR.OK.adv {len:Nat} {s:BR} (h:s.OK len) (n:Nat):(s.adv n).OK len:=⟨h.off,Nat.mod_lt _ Od,Nat.mod_lt _ Od⟩
theorem BR.OK.br {xs:List Nat} {k len:Nat} {s:BR} (h:s.OK len):(s.br xs k).OK len:=
  ⟨by have:=h.off;simp[BR.br];omega,cq h.val (Nat.mod_lt _ Od),by have:=h.rd;simp[BR.br];omega⟩
theorem BR.OK.loads {xs:List Nat} {k len:Nat} {s:BR} (h:s.OK len):∀n,(BR.loads xs k n s).OK len
  |0=>h
  |n+1=>(BR.OK.loads h n).br
theorem BR.jN {xs:List Nat} {k:Nat} {s:BR}:∀n,(BR.loads xs k n s).off=s.off-n
  |0=>rfl
  |n+1=>by simp[BR.loads,BR.br,BR.jN n];omega
theorem BR.mj {xs:List Nat} {k:Nat} {s:BR}:∀n,(BR.loads xs k n s).rd=s.rd-8*n
  |0=>rfl
  |n+1=>by simp[BR.loads,BR.br,BR.mj n];omega
theorem BR.OK.fill {t:Nat} {xs:List Nat} {k len:Nat} {s:BR} (h:s.OK len):(BR.fill t xs k s).OK len:=by
  unfold BR.fill;split
  · exact h
  · split
    · exact h.eW
    · exact h.loads _
theorem BR.Jk {t:Nat} {xs:List Nat} {k:Nat} {s:BR} (h:s.rd≤64):(BR.fill t xs k s).rd≤64:=by
  unfold BR.fill;split
  · exact h
  · split
    · simp[BR.eW];omega
    · rw[BR.mj];omega
theorem BR.rE {t:Nat} {xs:List Nat} {k len:Nat} (ht:4≤t) (hl:len<8):8*(BR.fill t xs k ⟨len,0,64⟩).off≤(BR.fill t xs k ⟨len,0,64⟩).rd:=by
  unfold BR.fill;rw[if_neg Oi];split
  · simp[BR.eW];omega
  · rw[BR.jN,BR.mj];simp
def tailV (xs:List Nat) (k:Nat):Nat→Nat
  |0=>0
  |n+1=>tailV xs k n+xs.getD (k+n) 0*2^(8*n)
theorem gD {xs:List Nat} (h:Bytes xs) (k:Nat):∀n,tailV xs k n<2^(8*n)
  |0=>by simp[tailV]
  |n+1=>by
    have h1:=gD h k n;have h2:=h.at_ (k+n);have h3:xs.getD (k+n) 0*2^(8*n)≤255*2^(8*n):=Nat.mul_le_mul_right _ Om;grind [tailV]
theorem sX {a b n:Nat} (h:b<2^n):a*2^n|||b=a*2^n+b:=by
  have:=Nat.shiftLeft_add_eq_or_of_lt h a;rw[Nat.shiftLeft_eq] at this;omega
theorem eH {a b n:Nat} (h:b<2^n):b|||a*2^n=a*2^n+b:=by rw[Nat.or_comm];exact sX h
theorem xj {xs:List Nat} (h:Bytes xs) (k:Nat):eR xs k=xs.getD k 0+xs.getD (k+1) 0*2^8+xs.getD (k+2) 0*2^16+xs.getD (k+3) 0*2^24:=by
  have h0:=h.at_ k;have h1:=h.at_ (k+1);have h2:=h.at_ (k+2);have h3:=h.at_ (k+3);unfold eR;rw[Nat.mod_eq_of_lt Om,Nat.mod_eq_of_lt Om,Nat.mod_eq_of_lt Om,eH (n:=8) Om,eH (n:=16) Om,eH (n:=24) Om];omega
theorem Dm {xs:List Nat} (h:Bytes xs) (k:Nat):mg xs k=tailV xs k 8:=by
  have h0:=h.at_ k;have h1:=h.at_ (k+1);have h2:=h.at_ (k+2);have h3:=h.at_ (k+3);have h4:=h.at_ (k+4);have h5:=h.at_ (k+5);have h6:=h.at_ (k+6);have h7:=h.at_ (k+7);unfold mg;rw[Nat.mod_eq_of_lt Om,Nat.mod_eq_of_lt Om,Nat.mod_eq_of_lt Om,Nat.mod_eq_of_lt Om,Nat.mod_eq_of_lt Om,Nat.mod_eq_of_lt Om,Nat.mod_eq_of_lt Om,
    eH (n:=8) Om,eH (n:=16) Om,eH (n:=24) Om,eH (n:=32) Om,eH (n:=40) Om,eH (n:=48) Om,eH (n:=56) Om]
  (simp[tailV];omega)
structure Pos (xs:List Nat) (k len:Nat) (s:BR) (n R:Nat):Prop where
  ok:s.OK len
  rd:s.rd≤64
  n:n=8*s.off+(64-s.rd)
  dv:∃q,s.val=q*2^s.rd∧q<2^(64-s.rd)∧R=q*2^(8*s.off)+tailV xs k s.off
theorem Pos.adv {xs:List Nat} {k len:Nat} {s:BR} {n R m:Nat} (h:Pos xs k len s n R) (hb:Bytes xs) (hm:m<64) (hr:s.rd+m≤64):Pos xs k len (s.adv m) (n-m) (R%2^(n-m)):=by
  obtain⟨q,hv,hq,hR⟩:=h.dv;have UY:m&&&63=m:=by rw[show(63:Nat)=2^6-1 from rfl,Nat.and_two_pow_sub_one_eq_mod];exact Nat.mod_eq_of_lt hm
  have kD:(s.adv m).rd=s.rd+m:=by simp[BR.adv];omega
  have hp:(2:Nat)^64=2^(64-s.rd-m)*2^(s.rd+m):=by rw[←Nat.pow_add];congr 1;omega
  have gB:(s.adv m).val=(q%2^(64-s.rd-m))*2^(s.rd+m):=by
    show s.val*2^(m&&&63)%18446744073709551616=_;rw[UY,hv,show(18446744073709551616:Nat)=2^64 from rfl,hp,Nat.mul_assoc, ←Nat.pow_add,Nat.mul_mod_mul_right]
  refine⟨h.ok.adv m,Om,by rw[h.n,kD];show _=8*s.off+_;omega,q%2^(64-s.rd-m),by rw[gB,kD],?_,?_⟩
  · rw[kD,show 64-(s.rd+m)=64-s.rd-m by omega];omega
  · show R%2^(n-m)=q%2^(64-s.rd-m)*2^(8*s.off)+tailV xs k s.off;have hn:n-m=(64-s.rd-m)+8*s.off:=by rw[h.n];omega
    have ht:=gD hb k s.off;rw[hR,hn,Nat.pow_add];have e1:q*2^(8*s.off)+tailV xs k s.off=2^(8*s.off)*q+tailV xs k s.off:=by rw[Nat.mul_comm]
    rw[e1,Nat.mul_comm (2^(64-s.rd-m)),Nat.mod_mul,Nat.mul_add_mod,Nat.mod_eq_of_lt ht,Nat.mul_add_div (Nat.pow_pos Om),Nat.div_eq_of_lt ht];grind
theorem xk {xs:List Nat} {k n:Nat} (h:0<n):tailV xs k n=tailV xs k (n-1)+xs.getD (k+(n-1)) 0*2^(8*(n-1)):=by
  cases n with
  |zero=>omega
  |succ n=>rfl
theorem Pos.br {xs:List Nat} {k len:Nat} {s:BR} {n R:Nat} (h:Pos xs k len s n R) (hb:Bytes xs) (hr:8≤s.rd) (ho:0<s.off):Pos xs k len (s.br xs k) n R:=by
  obtain⟨q,hv,hq,hR⟩:=h.dv;have hx:=hb.at_ (k+(s.off-1));have kD:=h.rd;have h8:(2:Nat)^s.rd=256*2^(s.rd-8):=by rw[show s.rd=8+(s.rd-8) by omega,Nat.pow_add,show 8+(s.rd-8)-8=s.rd-8 by omega]
  have eU:xs.getD (k+(s.off-1)) 0*2^(s.rd-8)<2^s.rd:=by
    rw[h8];exact Nat.mul_lt_mul_of_pos_right hx (Nat.pow_pos Om)
  have ux:(2:Nat)^s.rd≤18446744073709551616:=Nat.pow_le_pow_right (n:=2) Om (show s.rd≤64 from kD);have gB:(s.br xs k).val=(q*256+xs.getD (k+(s.off-1)) 0)*2^(s.rd-8):=by
    show s.val|||_%18446744073709551616=_;rw[Nat.mod_eq_of_lt Om,hv,sX eU,h8,Nat.add_mul,Nat.mul_assoc]
  refine⟨h.ok.br,by show s.rd-8≤64;omega,by rw[h.n];show _=8*(s.off-1)+(64-(s.rd-8));omega,q*256+xs.getD (k+(s.off-1)) 0,gB,?_,?_⟩
  · show _<2^(64-(s.rd-8));rw[show 64-(s.rd-8)=(64-s.rd)+8 by omega,Nat.pow_add];omega
  · show R=(q*256+xs.getD (k+(s.off-1)) 0)*2^(8*(s.off-1))+tailV xs k (s.off-1);rw[hR,xk ho,Nat.add_mul,Nat.mul_assoc,show(256:Nat)*2^(8*(s.off-1))=2^(8*s.off) by rw[show(256:Nat)=2^8 from rfl, ←Nat.pow_add];congr 1;omega];omega
theorem Pos.loads {xs:List Nat} {k len:Nat} {s:BR} {n R:Nat} (h:Pos xs k len s n R) (hb:Bytes xs):∀m,8*m≤s.rd→m≤s.off→Pos xs k len (BR.loads xs k m s) n R
  |0,_,_=>h
  |m+1,h1,h2=>by
    have ih:=Pos.loads h hb m Om Om;exact ih.br hb (by rw[BR.mj];omega) (by rw[BR.jN];omega)
theorem Pos.eW {xs:List Nat} {k len:Nat} {s:BR} {n R:Nat} (h:Pos xs k len s n R) (hb:Bytes xs) (hr:32≤s.rd) (ho:4≤s.off):Pos xs k len (s.eW xs k) n R:=by
  obtain⟨q,hv,hq,hR⟩:=h.dv;have hx:=dJ hb (k+(s.off-4));have kD:=h.rd;have h8:(2:Nat)^s.rd=4294967296*2^(s.rd-32):=by
    rw[show s.rd=32+(s.rd-32) by omega,Nat.pow_add,show 32+(s.rd-32)-32=s.rd-32 by omega]
  have eU:eR xs (k+(s.off-4))*2^(s.rd-32)<2^s.rd:=by
    rw[h8];exact Nat.mul_lt_mul_of_pos_right hx (Nat.pow_pos Om)
  have ux:(2:Nat)^s.rd≤18446744073709551616:=Nat.pow_le_pow_right (n:=2) Om (show s.rd≤64 from kD);have gB:(s.eW xs k).val=(q*4294967296+eR xs (k+(s.off-4)))*2^(s.rd-32):=by
    show s.val|||_%18446744073709551616=_;rw[Nat.mod_eq_of_lt Om,hv,sX eU,h8,Nat.add_mul,Nat.mul_assoc]
  refine⟨h.ok.eW,by show s.rd-32≤64;omega,by rw[h.n];show _=8*(s.off-4)+(64-(s.rd-32));omega,q*4294967296+eR xs (k+(s.off-4)),gB,?_,?_⟩
  · show _<2^(64-(s.rd-32));rw[show 64-(s.rd-32)=(64-s.rd)+32 by omega,Nat.pow_add];omega
  · show R=(q*4294967296+eR xs (k+(s.off-4)))*2^(8*(s.off-4))+tailV xs k (s.off-4);obtain⟨f,hf⟩:∃f,s.off=f+4:=⟨s.off-4,Om⟩;rw[hR,hf,Nat.add_sub_cancel,xj hb];grind [tailV]
theorem Pos.aX {xs:List Nat} {k len:Nat} {s:BR} {n R:Nat} (h:Pos xs k len s n R) (hb:Bytes xs) (ho:32≤s.rd→4≤s.off):Pos xs k len (s.aX xs k) n R∧(s.aX xs k).rd≤32:=by
  unfold BR.aX;split
  · grind
  · exact⟨h.eW hb Om (ho Om),by have:=h.rd;simp[BR.eW];omega⟩
theorem Pos.fill {t:Nat} {xs:List Nat} {k len:Nat} {s:BR} {n R:Nat} (h:Pos xs k len s n R) (hb:Bytes xs) (ht:4≤t) (h8:32≤s.rd→s.off<t→8*s.off≤s.rd):Pos xs k len (BR.fill t xs k s) n R∧((BR.fill t xs k s).rd≤32∨(BR.fill t xs k s).off=0):=by
  unfold BR.fill;split
  · grind
  · split
    · exact⟨h.eW hb Om Om,by have:=h.rd;simp[BR.eW];omega⟩
    · exact⟨h.loads hb _ (h8 Om Om) (Nat.le_refl _),.inr (by rw[BR.jN];omega)⟩
theorem Pos.top {xs:List Nat} {k len:Nat} {s:BR} {n R L:Nat} (h:Pos xs k len s n R) (hb:Bytes xs) (hL:L≤64) (hr:s.rd+L≤64∨s.off=0):s.val/2^(64-L)=R*2^L/2^n:=by
  obtain⟨q,hv,hq,hR⟩:=h.dv;have kD:=h.rd;have ht:=gD hb k s.off;have pos:∀m:Nat,0<2^m:=fun m=>Nat.pow_pos Om
  rcases Nat.lt_or_ge 64 (s.rd+L) with eU|hle
  · have h0:s.off=0:=Om;rw[h0] at hR ht;simp[tailV] at hR;have hn:n=64-s.rd:=by rw[h.n,h0];omega
    obtain⟨e,he⟩:∃e,s.rd=(64-L)+e:=⟨s.rd+L-64,Om⟩;rw[hv,hR,hn,he,Nat.pow_add, ←Nat.mul_assoc,Nat.mul_right_comm,Nat.mul_div_cancel _ (pos _)];have UZ:(2:Nat)^L=2^e*2^(64-(64-L+e)):=by rw[←Nat.pow_add];congr 1;omega
    rw[UZ, ←Nat.mul_assoc,Nat.mul_div_cancel _ (pos _)]
  · obtain⟨e,he⟩:∃e,64-L=s.rd+e:=⟨64-L-s.rd,Om⟩;have hn:n=(8*s.off+e)+L:=by rw[h.n];omega
    rw[hv,he,hn,Nat.pow_add,Nat.pow_add,Nat.mul_div_mul_right _ _ (pos _), ←Nat.div_div_eq_div_mul,Nat.mul_div_cancel _ (pos _),hR,Nat.pow_add, ←Nat.div_div_eq_div_mul,Nat.add_comm,Nat.add_mul_div_right _ _ (pos _),Nat.div_eq_of_lt ht,Nat.zero_add]
def tN (cd:Nat→Nat × Nat):List Nat→Nat
  |[]=>0
  |c::t=>(cd c).1+tN cd t
def tR (cd:Nat→Nat × Nat):List Nat→Nat
  |[]=>0
  |c::t=>(cd c).2*2^tN cd t+tR cd t
structure wg (dt:List Nat) (L:Nat) (cd:Nat→Nat × Nat) (S:Nat→Prop):Prop where
  L1:1≤L
  L16:L≤11
  one:∀c,S c→c<256∧1≤(cd c).1∧(cd c).1≤L∧(cd c).2<2^(cd c).1
  at_:∀c,S c→∀v,v<2^L→v/2^(L-(cd c).1)=(cd c).2→dt.getD v 0=(cd c).1+256*c
structure aJ (xs:List Nat) (k len:Nat) (cd:Nat→Nat × Nat) (S:Nat→Prop) (s:BR) (t:List Nat):Prop where
  pos:Pos xs k len s (tN cd t) (tR cd t)
  all:∀c ∈ t,S c
theorem YW {dt:List Nat} {L:Nat} {cd:Nat→Nat × Nat} {S:Nat→Prop} (h:wg dt L cd S):∀t:List Nat,(∀c ∈ t,S c)→tN cd t≤L*t.length∧t.length≤tN cd t
  |[],_=>by simp[tN]
  |c::t,ha=>by
    have:=YW h t (fun x hx=>ha x (List.mem_cons_of_mem _ hx));have:=h.one c (ha c List.mem_cons_self);simp only[tN,List.length_cons,Nat.mul_add];omega
theorem Jl {dt:List Nat} {L:Nat} {cd:Nat→Nat × Nat} {S:Nat→Prop} (h:wg dt L cd S):∀t:List Nat,(∀c ∈ t,S c)→tR cd t<2^tN cd t
  |[],_=>by simp[tN,tR]
  |c::t,ha=>by
    have h1:=Jl h t (fun x hx=>ha x (List.mem_cons_of_mem _ hx));have h2:=(h.one c (ha c List.mem_cons_self)).2.2.2;have h3:(cd c).2*2^tN cd t≤(2^(cd c).1-1)*2^tN cd t:=Nat.mul_le_mul_right _ Om;rw[Nat.sub_mul,Nat.one_mul, ←Nat.pow_add] at h3;have:2^tN cd t≤2^((cd c).1+tN cd t):=Nat.pow_le_pow_right Om Om;grind [tN,tR]
section
variable {xs dt:List Nat} {k len L:Nat} {cd:Nat→Nat × Nat} {S:Nat→Prop} {s:BR} {t:List Nat}
theorem aJ.look (h:aJ xs k len cd S s t) (hT:wg dt L cd S) (hb:Bytes xs) (ht:0<t.length) (hr:s.rd+L≤64∨s.off=0):
    dt.getD (s.val/2^(64-L)) 0=(cd (t.getD 0 0)).1+256*t.getD 0 0∧s.val/2^(64-L)<2^L:=by
  cases t with
  |nil=>simp at ht
  |cons c t=>
    have hc:=h.all c List.mem_cons_self;obtain⟨Dr,h1,hl,h2⟩:=hT.one c hc;have hL:=hT.L16;have pos:∀m:Nat,0<2^m:=fun m=>Nat.pow_pos Om
    have htR:=Jl hT t (fun x hx=>h.all x (List.mem_cons_of_mem _ hx));have eU:s.val/2^(64-L)<2^L:=by
      rw[Nat.div_lt_iff_lt_mul (pos _), ←Nat.pow_add,show L+(64-L)=64 by omega];exact h.pos.ok.val
    refine⟨hT.at_ c hc _ eU ?_,eU⟩;rw[h.pos.top hb Om hr];show((cd c).2*2^tN cd t+tR cd t)*2^L/2^((cd c).1+tN cd t)/2^(L-(cd c).1)=_;rw[Nat.div_div_eq_div_mul, ←Nat.pow_add,show(cd c).1+tN cd t+(L-(cd c).1)=tN cd t+L by omega,Nat.pow_add,Nat.mul_div_mul_right _ _ (pos _),Nat.add_comm,Nat.add_mul_div_right _ _ (pos _),Nat.div_eq_of_lt htR,Nat.zero_add]
theorem aJ.next (h:aJ xs k len cd S s t) (hT:wg dt L cd S) (hb:Bytes xs) (ht:0<t.length) (hr:s.rd+L≤64∨s.off=0):
    aJ xs k len cd S (s.adv (cd (t.getD 0 0)).1) (t.drop 1)∧1≤(cd (t.getD 0 0)).1∧(cd (t.getD 0 0)).1≤L∧t.getD 0 0<256∧s.rd+(cd (t.getD 0 0)).1≤64:=by
  cases t with
  |nil=>simp at ht
  |cons c t=>
    have hc:=h.all c List.mem_cons_self;obtain⟨Dr,h1,hl,h2⟩:=hT.one c hc;have hL:=hT.L16;have htR:=Jl hT t (fun x hx=>h.all x (List.mem_cons_of_mem _ hx));have hn:tN cd (c::t)=(cd c).1+tN cd t:=rfl;have kD:s.rd+(cd c).1≤64:=by
      rcases hr with h'|h'
      · omega
      · have:=h.pos.n;rw[hn,h'] at this;omega
    have ha:=h.pos.adv hb (m:=(cd c).1) Om kD;refine⟨⟨?_,fun x hx=>h.all x (List.mem_cons_of_mem _ (by simpa using hx))⟩,h1,hl,Dr,kD⟩;rw[hn,show(cd c).1+tN cd t-(cd c).1=tN cd t by omega] at ha;show Pos xs k len (s.adv (cd c).1) (tN cd t) (tR cd t);have:tR cd (c::t)%2^tN cd t=tR cd t:=by
      show((cd c).2*2^tN cd t+tR cd t)%_=_;rw[Nat.mul_comm,Nat.mul_add_mod,Nat.mod_eq_of_lt htR]
    grind
end
section
variable {P:Program} {K:Kx} {Q:Exit→Act→World→Prop} {ρ:aC} {l r p rest:List au} {o:Oper} {v:Value} {x y z:Operand} {t s f sz n m c lo hi len cap b q j d:Nat} {k k':IntKind}
theorem G.pick {cd:Code} (is:List Nat) (hp:pickS is l=some (p,rest)) (h:G P K Q cd ρ p r):G P K Q cd ρ l r:=fun a w ha=>h a w (ha.pick is hp)
theorem GQ.pick {e:Exit} (is:List Nat) (hp:pickS is l=some (p,rest)) (h:GQ K Q e ρ p r):GQ K Q e ρ l r:=fun a w ha=>h a w (ha.pick is hp)
theorem G.dg {x:Code} (M:aC→List au→Prop) (h:G P K (Exit.then (fun a w=>∃ρ l,M ρ l∧At K ρ l r a w) Q) x ρ l r) (k:∀ρ l,M ρ l→GQ K Q .normal ρ l r):G P K Q x ρ l r:=by
  refine fun a w ha=>wp_mono (h a w ha) ?_
  intro e a' w' hq;cases e with
  |normal=>obtain⟨ρ',l',hM,hA⟩:=hq;exact k ρ' l' hM a' w' hA
  |_=>exact hq
def eu (i:Value) (s:BR):List Value:=[i,.int .u64 ((s.off:Nat):Int),.int .u64 ((s.val:Nat):Int),.int .u8 ((s.rd:Nat):Int)]
theorem aI.ay {f:FuncId} {args:List Value} {u iv:Value} {b o:Nat} {sh:Option (TypeId × Nat)} {s0:BR} (R:BR→Prop) (h:aI P f args l r (fun v l'=>v=u∧l'=[⟨b,o,eu iv s0,sh⟩])) (hR:R s0):
    aI P f args l r (fun v l'=>v=u∧∃s',R s'∧l'=[⟨b,o,eu iv s',sh⟩]):=h.mono fun v l' ⟨h1,h2⟩=>⟨h1,s0,hR,h2⟩
theorem c7 {m k:Nat} (h:m<2^k):m&&&(2^k-1)=m:=by rw[Nat.and_two_pow_sub_one_eq_mod,Nat.mod_eq_of_lt h]
theorem af {u:Value} (h:aG P ρ o u) (e:u=v):aG P ρ o v:=e▸h
theorem Wd (s:BR) (L:Nat) (h1:1≤L) (h:L≤16) (hv:s.val<18446744073709551616):s.abG L=s.val/2^(64-L):=by
  unfold BR.abG;rw[show(64-L)&&&63=64-L by rw[show(63:Nat)=2^6-1 from rfl,Nat.and_two_pow_sub_one_eq_mod];exact Nat.mod_eq_of_lt Om];apply Nat.mod_eq_of_lt;rw[Nat.div_lt_iff_lt_mul (Nat.pow_pos Om)];have:(65536:Nat)*2^(64-L)=2^(80-L):=by rw[show(65536:Nat)=2^16 from rfl, ←Nat.pow_add];congr 1;omega
  rw[this];exact Nat.lt_of_lt_of_le hv (Nat.pow_le_pow_right (n:=2) Om (show 64≤80-L by omega))
theorem Wf {T T':TypeId} {zv:Value} (ho:o.op=.typeAssert x T T' true) (hx:ev ρ x=some .nilIface) (hz:(P.info? T').bind (·.zero)=some zv) (hT:(match P.underlying T' with|some (.pointer _)=>true|_=>false)=true):aG P ρ o (.tuple #[zv,.bool false]):=fun ac ha w=>by
  cases hu:P.underlying T' with
  |none=>simp[hu] at hT
  |some D=>
    cases D<;>simp[hu] at hT;cases hi:P.info? T' with
    |none=>simp[hi] at hz
    |some i=>
      simp[hi] at hz;simp[execOp,ho,bf ha hx,Instr.typeAssert,aK hu,zeroValue,j6 hi,hz]
theorem asG {cs:List Value} (ho:o.op=.build t #[]) (hz:vv P t=some cs) (hu:(match P.underlying t with|some (.array _ e)=>(eV P e).isSome|_=>false)=true):aG P ρ o (.agg cs.toArray):=fun ac ha w=>by
  unfold vv at hz;cases hi:P.info? t with
  |none=>simp[hi] at hz
  |some i=>
    cases rB:i.zero with
    |none=>simp[hi,rB] at hz
    |some zv=>
      simp[hi,rB] at hz;have Dj:zv.cells=cs.toArray:=by apply Array.toList_inj.1;simpa using hz
      cases hu':P.underlying t with
      |none=>simp[hu'] at hu
      |some D=>
        cases D<;>simp[hu'] at hu;rename_i n e;obtain⟨sz,hs⟩:=Option.isSome_iff_exists.1 hu;simp[execOp,ho,Instr.build,zeroValue,j6 hi,rB,aK hu',cC hs,Instr.fill,Dj]
theorem NA {d:Nat} {cs:List Value} (ho:o.op=.box t x) (hx:ev ρ x=some (.agg cs.toArray)) (hd:o.dst=some d) (hn:Nat.blt d K.n=true):
    kB P K ρ l r o (fun ρ' l'=>∃b,ρ'=(d,.pointer (some ⟨b,0,none⟩))::ρ∧l'=⟨b,0,cs,some (t,cs.length)⟩::l):=
  jJ ho hx rfl hd hn
end
theorem aA {k:IntKind} {xs:List Nat} {j e:Nat} (h:j<xs.length) (he:xs.getD j 0=e):(aa k xs)[j]? =some (.int k ((e:Nat):Int)):=he▸aM h
theorem ah {k:IntKind} {xs:List Nat} {j e:Nat} (h:j<xs.length) (he:xs.getD j 0=e):((aa k xs).drop j).take 1=[.int k ((e:Nat):Int)]:=he▸FZ h
theorem aP {s:BR} {n:Nat} (h:s.rd+n≤64):(s.adv n).rd=s.rd+n:=by simp[BR.adv];omega
theorem aJ.get {xs dt:List Nat} {k len L:Nat} {cd:Nat→Nat × Nat} {S:Nat→Prop} {s:BR} {c:Nat} {t:List Nat} (h:aJ xs k len cd S s (c::t)) (hT:wg dt L cd S) (hb:Bytes xs) (hr:s.rd+L≤64∨s.off=0):
    ∃n p,s.val/2^(64-L)=p∧dt.getD p 0=n+256*c∧p<2^L∧c<256∧1≤n∧n≤L∧s.rd+n≤64∧tN cd (c::t)=n+tN cd t∧aJ xs k len cd S (s.adv n) t:=by
  obtain⟨h1,h2⟩:=h.look hT hb Oi hr;obtain⟨h3,h4,h5,h6,h7⟩:=h.next hT hb Oi hr;exact⟨(cd c).1,_,rfl,h1,h2,h6,h4,h5,h7,rfl,h3⟩
theorem kE {t:List Nat} (h:4≤t.length):∃c1 c2 c3 c4 t',t=c1::c2::c3::c4::t':=by
  match t,h with
  |c1::c2::c3::c4::t',_=>exact⟨c1,c2,c3,c4,t',rfl⟩
theorem F1 {t:List Nat} (h:0<t.length):∃c t',t=c::t':=by
  match t,h with
  |c::t',_=>exact⟨c,t',rfl⟩
theorem jc {dt:List Nat} {L B:Nat} {cd:Nat→Nat × Nat} {S:Nat→Prop} (h:wg dt L cd S) (hB:L≤B) {t:List Nat} (ha:∀c ∈ t,S c):tN cd t≤B*t.length∧t.length≤tN cd t:=by
  have h1:=YW h t ha;exact⟨Nat.le_trans h1.1 (Nat.mul_le_mul_right _ hB),h1.2⟩
theorem sY {ys B:List Nat} {n c:Nat} (h:ys.take n=B) (hn:n<ys.length):(ys.set n c).take (n+1)=B++[c]:=by
  rw[List.take_succ_eq_append_getElem (by simpa using hn),List.take_set_of_le (Nat.le_refl n),h];simp
theorem xm {ys B:List Nat} {n c1 c2 c3 c4:Nat} (h:ys.take n=B) (hn:n+4≤ys.length):((((ys.set (n+0) c1).set (n+1) c2).set (n+2) c3).set (n+3) c4).take (n+4)=B++[c1,c2,c3,c4]:=by
  have h1:=sY (c:=c1) h Om;have h2:=sY (c:=c2) h1 Oz;have h3:=sY (c:=c3) h2 Oz;have h4:=sY (c:=c4) h3 Oz;simpa using h4
theorem cP {p:Option Addr} {a a' b b':Nat} (h1:a=a') (h2:b=b'):Value.slice p a b=Value.slice p a' b':=by rw[h1,h2]
theorem uO:Array.range 1= #[0]:=by decide
theorem uP:Array.range 2= #[0,1]:=by decide
theorem uQ:Array.range 3= #[0,1,2]:=by decide
theorem rF {L m:Nat} (h:L≤m):2^L≤2^m:=Nat.pow_le_pow_right Om h
theorem aJ.aX {xs:List Nat} {k len:Nat} {cd:Nat→Nat × Nat} {S:Nat→Prop} {s:BR} {t:List Nat} (h:aJ xs k len cd S s t) (hb:Bytes xs) (ho:32≤s.rd→4≤s.off):
    aJ xs k len cd S (s.aX xs k) t∧(s.aX xs k).rd≤32∧s.off≤(s.aX xs k).off+4∧(s.aX xs k).off≤s.off:=by
  obtain⟨h1,h2⟩:=h.pos.aX hb ho;refine⟨⟨h1,h.all⟩,h2,?_,?_⟩<;>(unfold BR.aX;split<;>simp[BR.eW]<;>omega)
theorem aJ.fill {xs:List Nat} {k len T:Nat} {cd:Nat→Nat × Nat} {S:Nat→Prop} {s:BR} {t:List Nat} (h:aJ xs k len cd S s t) (hb:Bytes xs) (hT:4≤T) (h8:32≤s.rd→s.off<T→8*s.off≤s.rd):
    aJ xs k len cd S (BR.fill T xs k s) t∧((BR.fill T xs k s).rd≤32∨(BR.fill T xs k s).off=0)∧(BR.fill T xs k s).off≤s.off:=by
  obtain⟨h1,h2⟩:=h.pos.fill hb hT h8;refine⟨⟨h1,h.all⟩,h2,?_⟩;grind [BR.fill,BR.eW,BR.jN]
theorem aJ.br {xs:List Nat} {k len:Nat} {cd:Nat→Nat × Nat} {S:Nat→Prop} {s:BR} {t:List Nat} (h:aJ xs k len cd S s t) (hb:Bytes xs) (hr:8≤s.rd) (ho:0<s.off):aJ xs k len cd S (s.br xs k) t:=⟨h.pos.br hb hr ho,h.all⟩
theorem NC (v L:Nat) (h:L≤8) (hv:v<18446744073709551616):v/2^56%256/2^(8-L)=v/2^(64-L):=by
  rw[Nat.mod_eq_of_lt Om,Nat.div_div_eq_div_mul, ←Nat.pow_add];congr 2;omega
theorem aJ.left {xs:List Nat} {k len:Nat} {cd:Nat→Nat × Nat} {S:Nat→Prop} {s:BR} {t:List Nat} (h:aJ xs k len cd S s t):tN cd t=8*s.off+(64-s.rd)∧s.rd≤64∧s.off≤len:=⟨h.pos.n,h.pos.rd,h.pos.ok.off⟩
structure Rd (q:Option Addr) (n sz:Nat) (row:List Value) (s:au) (j:Nat):Prop where
  len:row.length=n*sz
  ad:0<n→q=some ⟨s.b,s.o+j,none⟩
  cs:(s.cs.drop j).take row.length=row
theorem Rd.get {q:Option Addr} {n sz:Nat} {row:List Value} {s:au} {j i:Nat} (h:Rd q n sz row s j) (hi:i<row.length):s.cs[j+i]? =row[i]? :=by
  have h1:=congrArg (fun l:List Value=>l[i]?) h.cs;grind
theorem Rd.Ds {q:Option Addr} {n:Nat} {k:IntKind} {xs:List Nat} {s:au} {j i:Nat} (h:Rd q n 1 (aa k xs) s j) (hi:i<n):s.cs[j+i]? =some (.int k ((xs.getD i 0:Nat):Int)):=by
  have hl:xs.length=n:=by have:=h.len;simpa using this
  rw[h.get Oz,aM Om]
theorem Rd.oR {q:Option Addr} {n:Nat} {k:IntKind} {xs:List Nat} {s:au} {j:Nat} (h:Rd q n 1 (aa k xs) s j):xs.length=n:=by have:=h.len;simpa using this
theorem Rd.asH {q:Option Addr} {b o n sz cap:Nat} {cs row:List Value} {sh:Option (TypeId × Nat)} (hg:GS q b o cs sz cap) (hn:n≤cap) (hp:cs.take (n*sz)=row):Rd q n sz row ⟨b,o,cs,sh⟩ 0:=by
  have hle:n*sz≤cap*sz:=Nat.mul_le_mul_right _ hn;have hl:row.length=n*sz:=by rw[←hp,List.length_take,hg.len];omega
  refine⟨hl,fun h0=>by have:=hg.ay Om;simpa using this,?_⟩;grind
theorem Rd.jF {q:Option Addr} {b o n cap:Nat} {k:IntKind} {cs:List Value} {xs:List Nat} {sh:Option (TypeId × Nat)} (hg:GS q b o cs 1 cap) (hn:n≤cap) (hp:cs.take n=aa k xs):Rd q n 1 (aa k xs) ⟨b,o,cs,sh⟩ 0:=Rd.asH hg hn (by rw[Nat.mul_one];exact hp)
theorem Rd.abw {b o a n j:Nat} {k:IntKind} {xs ys:List Nat} {sh:Option (TypeId × Nat)} (hj:a=o+j) (hy:(xs.drop j).take n=ys) (hn:j+n≤xs.length):Rd (some ⟨b,a,none⟩) n 1 (aa k ys) ⟨b,o,aa k xs,sh⟩ j:=by
  subst hj;subst hy;refine⟨Oz,fun _=>rfl,dk _ _ _⟩
theorem Rd.nil {row:List Value} {s:au} {sz:Nat} (h:row=[]):Rd none 0 sz row s 0:=by
  subst h;exact⟨Oi,fun h=>Om,Oi⟩
theorem Rd.cut {q q':Option Addr} {n m lo sz:Nat} {row Wg:List Value} {s:au} {j:Nat} (h:Rd q n sz row s j) (hm:lo+m≤n) (hr:(row.drop (lo*sz)).take (m*sz)=Wg) (hq:0<m→q'=some ⟨s.b,s.o+(j+lo*sz),none⟩):Rd q' m sz Wg s (j+lo*sz):=by
  have hle:lo*sz+m*sz≤n*sz:=by rw[←Nat.add_mul];exact Nat.mul_le_mul_right _ hm
  have hl:Wg.length=m*sz:=by rw[←hr,List.length_take,List.length_drop,h.len];omega
  refine⟨hl,hq,?_⟩;rw[hl, ←hr];have h1:=h.cs;rw[h.len] at h1;rw[←h1,List.drop_take,List.take_take,List.drop_drop];congr 1;omega
theorem Rd.front {q:Option Addr} {n hi:Nat} {k:IntKind} {xs:List Nat} {s:au} {j:Nat} (h:Rd q n 1 (aa k xs) s j) (hm:hi≤n):Rd q hi 1 (aa k (xs.take hi)) s j:=by
  have h1:=h.len;have:=h.cut (lo:=0) (m:=hi) (Wg:=aa k (xs.take hi)) (q':=q) Om (by simp[aa,List.map_take]) (fun h0=>by rw[Nat.zero_mul,Nat.add_zero];exact h.ad Om);omega
theorem ND {cs:List Value} {n hi:Nat} {k:IntKind} {xs:List Nat} (h:cs.take n=aa k xs) (hh:hi≤n):cs.take hi=aa k (xs.take hi):=by
  have:=congrArg (fun l:List Value=>l.take hi) h;simpa [List.take_take,Nat.min_eq_left hh,aa,List.map_take] using this
theorem Src.Wh {l r:List au} {q:Option Addr} {n sz:Nat} {row:List Value} {s:au} {j:Nat} (i:Nat) (hs:nthS i (l++r)=some s) (h:Rd q n sz row s j):Src l r q row:=by
  rcases Nat.eq_zero_or_pos n with h0|h0
  · left;have:=h.len;simp_all
  · exact .inr ⟨s,dw _ _ _ hs,j,h.ad h0,h.cs⟩
section
variable {P:Program} {K:Kx} {Q:Exit→Act→World→Prop} {ρ:aC} {l r:List au} {o:Oper} {v:Value} {x y z:Operand} {t s f sz n m lo hi len cap b q j:Nat} {k k':IntKind} {p:Option Addr}
theorem qX {q':Nat} (ho:o.op=.indexAddr t x y) (hx:ev ρ x=some (.slice p len cap)) (hy:ev ρ y=some (.int k (m:Nat))) (hP:cF P t=some sz) (h:m<len) (hp:p=some ⟨b,q,none⟩) (hq:q+m*sz=q'):aG P ρ o (.pointer (some ⟨b,q',none⟩)):=by
  grind [eQ]
def kd (p:Option Addr) (lo sz cap:Nat):Option Addr:=p.bind fun a=>some (if cap=lo then a else a.add (lo*sz))
theorem qe {b q lo sz cap q':Nat} {p:Option Addr} (hp:p=some ⟨b,q,none⟩) (h:lo<cap) (hq:q+lo*sz=q'):kd p lo sz cap=some ⟨b,q',none⟩:=by
  grind [kd,dd]
theorem ajb (ho:o.op=.slice t x (some y) (some z) none) (hx:ev ρ x=some (.slice p len cap)) (hy:ev ρ y=some (.int k (lo:Nat))) (hz:ev ρ z=some (.int k' (hi:Nat))) (hP:cF P t=some sz) (h:lo≤hi∧hi≤cap) (hp:p=none→cap=0):aG P ρ o (.slice (kd p lo sz cap) (hi-lo) (cap-lo)):=by
  intro ac ha w;unfold cF at hP;cases hu:P.underlying t with
  |none=>simp[hu] at hP
  |some D=>
    cases D<;>simp[hu] at hP;cases p with
    |none=>
      have h0:=hp rfl;obtain rfl:lo=0:=Om;obtain rfl:hi=0:=Om;subst h0;simp[execOp,ho,bf ha hx,bf ha hy,bf ha hz,Instr.sliceAt,aK hu,Instr.slice,Instr.sliceBounds,Instr.sliceBound,asIntOf,cC hP,kd]
    |some a=>simp[execOp,ho,bf ha hx,bf ha hy,bf ha hz,Instr.sliceAt,aK hu,Instr.slice,Instr.sliceBounds,Instr.sliceBound,asIntOf,cC hP,h.1,h.2,kd];split<;>rfl
def PA (p:Option Addr) (cap:Nat):Prop:=(∃b q:Nat,p=some ⟨b,q,none⟩)∨(p=none∧cap=0)
theorem PA.xn (h:PA p cap):p=none→cap=0:=fun e=>by
  rcases h with ⟨b,q,h⟩|⟨_,h⟩
  · grind
  · exact h
theorem F2 (ho:o.op=.slice t x none (some z) none) (hx:ev ρ x=some (.slice p len cap)) (hz:ev ρ z=some (.int k' (hi:Nat))) (hP:cF P t=some sz) (h:hi≤cap) (hp:PA p cap):aG P ρ o (.slice p hi cap):=by
  intro ac ha w;unfold cF at hP;cases hu:P.underlying t with
  |none=>simp[hu] at hP
  |some D=>
    cases D<;>simp[hu] at hP;rcases hp with ⟨b,q,rfl⟩|⟨rfl,h0⟩;rotate_left
    · obtain rfl:hi=0:=Om;subst h0;simp[execOp,ho,bf ha hx,bf ha hz,Instr.sliceAt,aK hu,Instr.slice,Instr.sliceBounds,Instr.sliceBound,asIntOf,cC hP]
    · simp[execOp,ho,bf ha hx,bf ha hz,Instr.sliceAt,aK hu,Instr.slice,Instr.sliceBounds,Instr.sliceBound,asIntOf,cC hP,h,dd]
theorem Bi (ho:o.op=.slice t x (some y) none none) (hx:ev ρ x=some (.slice p len cap)) (hy:ev ρ y=some (.int k (lo:Nat))) (hP:cF P t=some sz) (h:lo≤len∧len≤cap) (hp:p=none→cap=0):aG P ρ o (.slice (kd p lo sz cap) (len-lo) (cap-lo)):=by
  intro ac ha w;unfold cF at hP;cases hu:P.underlying t with
  |none=>simp[hu] at hP
  |some D=>
    cases D<;>simp[hu] at hP;cases p with
    |none=>
      have h0:=hp rfl;subst h0;obtain rfl:len=0:=Om;obtain rfl:lo=0:=Om;simp[execOp,ho,bf ha hx,bf ha hy,Instr.sliceAt,aK hu,Instr.slice,Instr.sliceBounds,Instr.sliceBound,asIntOf,cC hP,kd]
    |some a=>simp[execOp,ho,bf ha hx,bf ha hy,Instr.sliceAt,aK hu,Instr.slice,Instr.sliceBounds,Instr.sliceBound,asIntOf,cC hP,h.1,h.2,kd];split<;>rfl
theorem Du {bo:BinOp} {e:Nat} {ty bN:TypeId} (hb:bo=.eql∨bo=.neq) (ho:o.op=.binOp bo ty x (.const (.slice none 0 0)) bN) (hx:ev ρ x=some (.slice p len cap)) (hu:P.underlying ty=some (.slice e)):aG P ρ o (.bool (if bo=.eql then p.isNone else !p.isNone)):=fun ac ha w=>by
  have h:∀w,(Op.equal ty (.slice p len cap) (.slice none 0 0)).run P w=.ok p.isNone w:=fun w=>by
    have:∀d,(Op.equalIn (d+1) ty (.slice p len cap) (.slice none 0 0)).run P w=.ok p.isNone w:=fun d=>by cases p<;>simp[Op.equalIn,aK hu]
    exact this 9999
  have hg:(eqGuard bo ty x (.const (.slice none 0 0)) (.slice p len cap) (.slice none 0 0)).run P w=.ok () w:=by
    unfold eqGuard;simp_all
  have hr:(binOp bo ty (.slice p len cap) (.slice none 0 0)).run P w=.ok (.bool (if bo=.eql then p.isNone else !p.isNone)) w:=by
    rcases hb with rfl|rfl<;>simp[binOp,h]
  have abD:ac.eval (.const (.slice none 0 0))=.slice none 0 0:=rfl;simp only[execOp,ho,bf ha hx,abD,Sem.run_bind,hg,hr,Result.andThen_ok,Sem.run_pure]
theorem KF {e:Nat} {ty bN:TypeId} (ho:o.op=.binOp .eql ty x (.const (.slice none 0 0)) bN) (hx:ev ρ x=some (.slice p len cap)) (hu:P.underlying ty=some (.slice e)):aG P ρ o (.bool p.isNone):=Du (.inl rfl) ho hx hu
theorem KG {e:Nat} {ty bN:TypeId} (ho:o.op=.binOp .neq ty x (.const (.slice none 0 0)) bN) (hx:ev ρ x=some (.slice p len cap)) (hu:P.underlying ty=some (.slice e)):aG P ρ o (.bool !p.isNone):=Du (.inr rfl) ho hx hu
end
theorem GS.pa {q:Option Addr} {b o sz cap:Nat} {cs:List Value} (h:GS q b o cs sz cap):PA q cap:=by
  rcases h.ad with h'|h'
  · exact .inl ⟨_,_,h'⟩
  · exact .inr h'
theorem PA.some {b q cap:Nat}:PA (some ⟨b,q,none⟩) cap:=.inl ⟨_,_,rfl⟩
theorem PA.cut {p:Option Addr} {lo sz cap:Nat} (h:PA p cap):PA (kd p lo sz cap) (cap-lo):=by
  rcases h with ⟨b,q,rfl⟩|⟨rfl,h⟩
  · left;simp only[kd,Option.bind_some,dd];split
    · grind
    · grind
  · exact .inr ⟨rfl,Om⟩
def rows {α:Type} (f:α→List Value) (xs:List α):List Value:=xs.flatMap f
section
variable {α:Type} {f:α→List Value} {sz:Nat}
theorem dh (hf:∀x,(f x).length=sz):∀xs:List α,(rows f xs).length=xs.length*sz
  |[]=>by simp[rows]
  |x::xs=>by
    have:=dh hf xs;grind [rows]
theorem uR (hf:∀x,(f x).length=sz):∀(xs:List α) (i:Nat),(rows f xs).drop (i*sz)=rows f (xs.drop i)
  |xs,0=>by simp
  |[],i+1=>by simp[rows]
  |x::xs,i+1=>by
    have:=uR hf xs i;simp only[rows,List.flatMap_cons,List.drop_succ_cons] at this ⊢;rw[Nat.add_mul,Nat.one_mul,Nat.add_comm, ←List.drop_drop,List.drop_left' (hf x)];exact this
theorem zW (hf:∀x,(f x).length=sz):∀(xs:List α) (i:Nat),(rows f xs).take (i*sz)=rows f (xs.take i)
  |xs,0=>by simp[rows]
  |[],i+1=>by simp[rows]
  |x::xs,i+1=>by
    have:=zW hf xs i;simp only[rows,List.flatMap_cons,List.take_succ_cons] at this ⊢;rw[Nat.add_mul,Nat.one_mul,Nat.add_comm, ←hf x,List.take_length_add_append,hf x,this]
theorem cG (hf:∀x,(f x).length=sz) (d:α) {xs:List α} {i:Nat} (hi:i<xs.length):((rows f xs).drop (i*sz)).take sz=f (xs.getD i d):=by
  rw[uR hf,List.drop_eq_getElem_cons hi];grind [rows]
theorem s6 (hf:∀x,(f x).length=sz) (d:α) {xs:List α} {i e:Nat} (hi:i<xs.length) (he:e<sz):(rows f xs)[i*sz+e]? =(f (xs.getD i d))[e]? :=by
  rw[←cG hf d hi,List.getElem?_take,if_pos he,List.getElem?_drop]
theorem NF (hf:∀x,(f x).length=sz) {xs:List α} {i:Nat} (hi:i<xs.length) (y:α):spl (rows f xs) (i*sz) (f y)=rows f (xs.set i y):=by
  have hl:i*sz+sz≤xs.length*sz:=by rw[←Nat.succ_mul];exact Nat.mul_le_mul_right _ hi
  rw[xi _ _ _ (by rw[hf,dh hf];exact hl),hf,zW hf,show i*sz+sz=(i+1)*sz by rw[Nat.succ_mul],uR hf,List.set_eq_take_append_cons_drop,if_pos hi];simp[rows]
theorem fF (hf:∀x,(f x).length=sz) (d:α) {xs:List α} {i e:Nat} {v:Value} {y:α} (hi:i<xs.length) (he:e<sz) (h:(f (xs.getD i d)).set e v=f y):(rows f xs).set (i*sz+e) v=rows f (xs.set i y):=by
  have hl:i*sz+sz≤xs.length*sz:=by rw[←Nat.succ_mul];exact Nat.mul_le_mul_right _ hi
  rw[←NF hf hi y, ←h];rw[xi _ _ _ (by rw[List.length_set,hf,dh hf];exact hl),List.length_set,hf];have h1:rows f xs=(rows f xs).take (i*sz)++(f (xs.getD i d)++(rows f xs).drop (i*sz+sz)):=by
    rw[←cG hf d hi, ←List.drop_drop,List.take_append_drop,List.take_append_drop]
  conv=>lhs;rw[h1]
  grind
end
def KH (k:IntKind) (Φ:List Nat→Prop) (v:Value) (l':List au):Prop:=∃q b o cs cap xs n,v=.slice q n cap∧GS q b o cs 1 cap∧n≤cap∧cs.take n=aa k xs∧xs.length=n∧Φ xs∧l'=[⟨b,o,cs,none⟩]
theorem KH.mk {k:IntKind} {Φ:List Nat→Prop} {P:List Nat} {m:Nat} {q:Option Addr} {b o cap:Nat} {cs:List Value} (hg:GS q b o cs 1 cap) (hc:m≤cap) (hp:cs.take m=aa k P) (hl:P.length=m) (h:Φ P):KH k Φ (.slice q m cap) [⟨b,o,cs,none⟩]:=⟨q,b,o,cs,cap,P,m,rfl,hg,hc,hp,hl,h,rfl⟩
theorem GS.set {q:Option Addr} {b o sz cap:Nat} {cs:List Value} (h:GS q b o cs sz cap) (j:Nat) (v:Value):GS q b o (cs.set j v) sz cap:=⟨by rw[List.length_set];exact h.len,h.ad⟩
theorem Jm {cs:List Value} {n j:Nat} {k:IntKind} {xs:List Nat} (h:cs.take n=aa k xs) (hj:j<n) (v:Nat):(cs.set j (.int k ((v:Nat):Int))).take n=aa k (xs.set j v):=by
  rw[List.take_set,h,sU]
def bls (xs:List Bool):List Value:=xs.map .bool
@[simp] theorem abH (xs:List Bool):(bls xs).length=xs.length:=by simp[bls]
section
variable {P:Program} {K:Kx} {Q:Exit→Act→World→Prop} {ρ:aC} {l r:List au} {o:Oper} {v:Value} {x y z:Operand} {t e n m:Nat} {k:IntKind}
theorem f' {c:Call} {f:FuncId} {args:List Value} {lc rest rc:List au} {dx:Value→List au→Prop} {d:Nat} (is:List Nat) (uF:aI P f args lc rc dx) (ho:o.op=.call c) (hf:c.callee=.value (.func f)) (gx:evs ρ c.args.toList=some args)
    (hl:pickS is l=some (lc,rest)) (LZ:∀s ∈ rc,s ∈ rest++r) (hd:o.dst=some d) (hn:Nat.blt d K.n=true):
    kB P K ρ l r o (fun ρ' l'=>∃v wb,dx v wb∧ρ'=(d,v)::ρ∧l'=wb++rest):=by
  intro a w ha nx Q lY;have hA:=ha.perm (iy _ _ _ _ hl);have hca:=uF.run w (hA.st.Ns LZ);have iz:(c.args.map a.eval)=args.toArray:=by
    have:=oM ha.fr _ _ gx;grind
  have e:(execOp a.eval o).run P w=.ok (.enter f args.toArray) w:=by
    simp[execOp,ho,resolve,hf,iz,Act.eval,Deferred.ofValue,invoke,mY uF.can]
  unfold Oper.wp;rw[e];simp only[Oper.upon];refine hca.mono fun e w' hE=>?_
  obtain⟨v,wb,rfl,hP,hk,gV,C7⟩:=hE.out;simp only[hd];exact lY _ _ ⟨(d,v)::ρ,wb++rest,⟨v,wb,hP,rfl,rfl⟩,(hA.uK LZ hk gV C7).put hn v⟩
end
section
variable {P:Program} {ρ:aC} {o:Oper} {x:Operand} {ty:TypeId} {a:Int}
end
theorem int_eq {k:IntKind} {a b:Int} (h:a=b):Value.int k a=Value.int k b:=by rw[h]
theorem fk {P:Program} {ρ:aC} {l r:List au} {o:Oper} {u v:Value} (h:nN P ρ l r o u) (e:u=v):nN P ρ l r o v:=e▸h
def f3 (c:Nat × Nat × Nat):List Value:=[.int .i64 ((c.1:Nat):Int),.int .i64 ((c.2.1:Nat):Int),.int .i64 ((c.2.2:Nat):Int)]
section
variable {P:Program} {K:Kx} {Q:Exit→Act→World→Prop} {ρ:aC} {l r:List au} {o:Oper} {v:Value} {x y z:Operand} {t n m cap sz d:Nat}
end
theorem jO (xs:List Nat) (k a:Nat):∀b,tailV xs k (a+b)=tailV xs k a+tailV xs (k+a) b*2^(8*a)
  |0=>by simp[tailV]
  |b+1=>by
    rw[←Nat.add_assoc];simp only[tailV,jO xs k a b,Nat.add_mul,Nat.mul_add,Nat.pow_add,Nat.add_assoc];grind
theorem iJ {xs ys:List Nat} {k k':Nat}:∀n,(∀i,i<n→xs.getD (k+i) 0=ys.getD (k'+i) 0)→tailV xs k n=tailV ys k' n
  |0,_=>rfl
  |n+1,h=>by
    simp only[tailV];rw[iJ n (fun i hi=>h i Om),h n Om]
theorem aS {xs:List Nat} {i j v:Nat} (h:i<xs.length):(xs.set i v).getD j 0=if i=j then v else xs.getD j 0:=by
  grind
theorem uS {xs:List Nat} (h:Bytes xs) (k:Nat) {m n:Nat} (hm:m≤n):tailV xs k n%2^(8*m)=tailV xs k m:=by
  obtain⟨d,rfl⟩:∃d,n=m+d:=⟨n-m,Om⟩;rw[jO,Nat.add_mul_mod_self_right,Nat.mod_eq_of_lt (gD h k m)]
theorem xp {xs:List Nat} (h:Bytes xs) {j n:Nat} (hj:j<n):tailV xs 0 n/2^(8*j)%256=xs.getD j 0:=by
  obtain⟨d,rfl⟩:∃d,n=(j+1)+d:=⟨n-(j+1),Om⟩;have hx:=h.at_ j;have ht:=gD h 0 j;have p:0<2^(8*j):=Nat.pow_pos Om;rw[jO];simp only[tailV,Nat.zero_add];rw[show 8*(j+1)=8+8*j by omega,Nat.pow_add, ←Nat.mul_assoc,Nat.add_assoc, ←Nat.add_mul,Nat.add_mul_div_right _ _ p,Nat.div_eq_of_lt ht];omega
theorem Pos.start {xs:List Nat} {k len t:Nat} (hb:Bytes xs) (ht:4≤t) (hl:1≤len):Pos xs k len (BR.start t xs k len) (8*len) (tailV xs k len)∧((BR.start t xs k len).rd≤32∨(BR.start t xs k len).off=0):=by
  unfold BR.start;split
  · rename_i h8;refine⟨⟨⟨Oi,m9 hb _,Oi⟩,Oi,Oz,mg xs (k+(len-8)),Oi,by simpa using m9 hb _,?_⟩,.inl Oi⟩;show tailV xs k len=mg xs (k+(len-8))*2^(8*(len-8))+tailV xs k (len-8);rw[Dm hb];have:=jO xs k (len-8) 8;grind
  · rename_i h8;have h0:Pos xs k len ⟨len,0,64⟩ (8*len) (tailV xs k len):=⟨⟨Nat.le_refl _,Oi,Oi⟩,Oi,Oi,0,Oi,Oi,Oi⟩;obtain⟨h1,Wb⟩:=h0.fill (t:=t) hb ht (fun _ _=>Oz);have hs:=BR.rE (t:=t) (xs:=xs) (k:=k) ht (show len<8 by omega);exact h1.fill hb ht (fun _ _=>hs)
theorem Pos.init {xs:List Nat} {k len t:Nat} (hb:Bytes xs) (ht:4≤t) (hl:1≤len) (h0:0<xs.getD (k+(len-1)) 0):
    Pos xs k len (BR.init t xs k len) (8*(len-1)+(aq (xs.getD (k+(len-1)) 0)-1)) (tailV xs k len%2^(8*(len-1)+(aq (xs.getD (k+(len-1)) 0)-1))):=by
  obtain⟨h,hr⟩:=Pos.start (t:=t) (k:=k) hb ht hl;have hx:=hb.at_ (k+(len-1));have h8:aq (xs.getD (k+(len-1)) 0)≤8:=cL Om;have h1:=dy h0;have kD:(BR.start t xs k len).rd+(8-(aq (xs.getD (k+(len-1)) 0)-1))≤64:=by
    rcases hr with hr|hr
    · omega
    · have:=h.n;rw[hr] at this;omega
  have:=h.adv hb (m:=8-(aq (xs.getD (k+(len-1)) 0)-1)) Om kD;rw[show 8*len-(8-(aq (xs.getD (k+(len-1)) 0)-1))=8*(len-1)+(aq (xs.getD (k+(len-1)) 0)-1) by omega] at this;exact this
theorem zX {n r:Nat} (h:r<2^n):aq (2^n+r)=n+1:=by
  have h1:=cL (n:=2^n+r) (k:=n+1) (by rw[Nat.pow_succ];omega);have h2:=ir (2^n+r);rcases Nat.lt_or_ge n (aq (2^n+r)) with h|h
  · omega
  · have:=Nat.pow_le_pow_right (n:=2) Om h;omega
theorem Pos.ta {xs:List Nat} {k len t n R:Nat} (hb:Bytes xs) (ht:4≤t) (hl:len=n/8+1) (hR:R<2^n) (hv:tailV xs k len=2^n+R):
    Pos xs k len (BR.init t xs k len) n R∧0<xs.getD (k+(len-1)) 0:=by
  subst hl;simp only[tailV] at hv;rw[Nat.add_sub_cancel];have wi:=gD hb k (n/8);generalize hx:xs.getD (k+n/8) 0=x at hv;have hp:0<2^(8*(n/8)):=Nat.pow_pos Om;have e:(2:Nat)^n=2^(n%8)*2^(8*(n/8)):=by rw[←Nat.pow_add];congr 1;omega
  have y5:x=2^(n%8)+R/2^(8*(n/8)):=by
    have h1:x=(tailV xs k (n/8)+x*2^(8*(n/8)))/2^(8*(n/8)):=by rw[Nat.add_mul_div_right _ _ hp,Nat.div_eq_of_lt wi,Nat.zero_add]
    rw[h1,hv,e,Nat.add_comm,Nat.add_mul_div_right _ _ hp,Nat.add_comm]
  have hr8:R/2^(8*(n/8))<2^(n%8):=by rw[Nat.div_lt_iff_lt_mul hp, ←e];exact hR
  have L5:aq x=n%8+1:=by rw[y5];exact zX hr8
  have rG:0<x:=by rw[y5];exact Nat.lt_of_lt_of_le (Nat.pow_pos Om) (Nat.le_add_right _ _)
  have h:=Pos.init (t:=t) (k:=k) (len:=n/8+1) hb ht Om (by rw[Nat.add_sub_cancel,hx];exact rG);rw[Nat.add_sub_cancel,hx,L5,show 8*(n/8)+(n%8+1-1)=n by omega] at h;have hm:tailV xs k (n/8+1)%2^n=R:=by
    simp only[tailV];rw[hx,hv,Nat.add_comm,Nat.add_mod_right,Nat.mod_eq_of_lt hR]
  grind
def bitsV:List Nat→Nat
  |[]=>0
  |b::bs=>b*2^bs.length+bitsV bs
def om (bs:List Nat):Prop:=∀b ∈ bs,b<2
theorem na:∀as bs:List Nat,bitsV (as++bs)=bitsV as*2^bs.length+bitsV bs
  |[],bs=>by simp[bitsV]
  |a::as,bs=>by
    simp only[List.cons_append,bitsV,na as bs,List.length_append,Nat.add_mul,Nat.pow_add];grind
def BR.ke (xs:List Nat) (k:Nat) (s:BR):BR:=⟨s.off-4,s.val*2^32%18446744073709551616|||eR xs (k+(s.off-4)),s.rd-32⟩
def BR.jd (xs:List Nat) (k:Nat) (s:BR):BR:=if s.rd<32 then s else s.ke xs k
def BR.Bj (xs:List Nat) (k:Nat) (s:BR):BR:=⟨s.off-1,s.val*2^8%18446744073709551616|||xs.getD (k+(s.off-1)) 0,s.rd-8⟩
def BR.floads (xs:List Nat) (k:Nat):Nat→BR→BR
  |0,s=>s
  |n+1,s=>(BR.floads xs k n s).Bj xs k
def BR.eE (xs:List Nat) (k:Nat) (s:BR):BR:=if s.rd<32 then s else if 4<s.off then s.ke xs k else BR.floads xs k s.off s
def BR.nc (xs:List Nat) (k len:Nat):BR:=if 8≤len then ⟨len-8,mg xs (k+(len-8)),0⟩ else BR.eE xs k (BR.eE xs k ⟨len,0,64⟩)
def BR.gd (xs:List Nat) (k len:Nat):BR:=⟨(BR.nc xs k len).off,(BR.nc xs k len).val,((BR.nc xs k len).rd+(8-(aq (xs.getD (k+(len-1)) 0)-1)))%256⟩
def BR.mq (s:BR) (n:Nat):Nat:=s.val*2^(s.rd&&&63)%18446744073709551616/2^((64-n)&&&63)%65536
def BR.fm (s:BR) (n:Nat):BR:=⟨s.off,s.val,(s.rd+n)%256⟩
structure gR (xs:List Nat) (k len:Nat) (s:BR) (n R:Nat):Prop where
  ok:s.OK len
  rd:s.rd≤64
  n:n=8*s.off+(64-s.rd)
  R:R=s.val%2^(64-s.rd)*2^(8*s.off)+tailV xs k s.off
section
variable {xs:List Nat} {k len n R:Nat} {s:BR}
theorem gR.lt (h:gR xs k len s n R) (hb:Bytes xs):R<2^n:=by
  have ht:=gD hb k s.off;have h1:=Nat.mod_lt s.val (Nat.pow_pos (n:=64-s.rd) (show 0<2 by omega));have h2:s.val%2^(64-s.rd)*2^(8*s.off)≤(2^(64-s.rd)-1)*2^(8*s.off):=Nat.mul_le_mul_right _ Om;rw[Nat.sub_mul,Nat.one_mul, ←Nat.pow_add] at h2;have h3:2^(8*s.off)≤2^(64-s.rd+8*s.off):=Nat.pow_le_pow_right Om Om;rw[h.R,h.n,Nat.add_comm (8*s.off)];omega
theorem NG {v x e r:Nat} (hx:x<2^e) (he:e≤r) (hr:r≤64):(v*2^e%18446744073709551616|||x)%2^(64-(r-e))=v%2^(64-r)*2^e+x:=by
  have ux:(18446744073709551616:Nat)=2^(64-e)*2^e:=by rw[←Nat.pow_add,show 64-e+e=64 by omega]
  rw[ux,Nat.mul_mod_mul_right,sX hx,show 64-(r-e)=(64-r)+e by omega,Nat.pow_add];have hd:2^(64-r)∣2^(64-e):=Nat.pow_dvd_pow 2 Om;rw[Nat.add_mod,Nat.mul_mod_mul_right,Nat.mod_mod_of_dvd _ hd];have y5:x%(2^(64-r)*2^e)=x:=Nat.mod_eq_of_lt (Nat.lt_of_lt_of_le hx (Nat.le_mul_of_pos_left _ (Nat.pow_pos Om)));rw[y5];refine Nat.mod_eq_of_lt ?_;have h1:=Nat.mod_lt v (Nat.pow_pos (n:=64-r) (show 0<2 by omega));have h2:v%2^(64-r)*2^e≤(2^(64-r)-1)*2^e:=Nat.mul_le_mul_right _ Om;rw[Nat.sub_mul,Nat.one_mul] at h2;have h3:2^e≤2^(64-r)*2^e:=Nat.le_mul_of_pos_left _ (Nat.pow_pos Om);omega
theorem gR.br (h:gR xs k len s n R) (hb:Bytes xs) (hr:8≤s.rd) (ho:0<s.off):gR xs k len (s.Bj xs k) n R:=by
  have hx:=hb.at_ (k+(s.off-1));have kD:=h.rd;have lu:=h.ok.off;refine⟨⟨by show s.off-1≤len;omega,cq (Nat.mod_lt _ Od) Om,by show s.rd-8<256;omega⟩,by show s.rd-8≤64;omega,by rw[h.n];show _=8*(s.off-1)+(64-(s.rd-8));omega,?_⟩;show R=(s.val*2^8%18446744073709551616|||xs.getD (k+(s.off-1)) 0)%2^(64-(s.rd-8))*2^(8*(s.off-1))+tailV xs k (s.off-1);rw[NG (e:=8) Om hr kD,h.R,xk ho,Nat.add_mul,Nat.mul_assoc, ←Nat.pow_add,show 8+8*(s.off-1)=8*s.off by omega];omega
theorem BR.jP:∀n,(BR.floads xs k n s).off=s.off-n
  |0=>rfl
  |n+1=>by simp[BR.floads,BR.Bj,BR.jP n];omega
theorem BR.qf:∀n,(BR.floads xs k n s).rd=s.rd-8*n
  |0=>rfl
  |n+1=>by simp[BR.floads,BR.Bj,BR.qf n];omega
theorem gR.loads (h:gR xs k len s n R) (hb:Bytes xs):∀m,8*m≤s.rd→m≤s.off→gR xs k len (BR.floads xs k m s) n R
  |0,_,_=>h
  |m+1,h1,h2=>by
    have ih:=gR.loads h hb m Om Om;exact ih.br hb (by rw[BR.qf];omega) (by rw[BR.jP];omega)
theorem gR.eW (h:gR xs k len s n R) (hb:Bytes xs) (hr:32≤s.rd) (ho:4≤s.off):gR xs k len (s.ke xs k) n R:=by
  have hx:=dJ hb (k+(s.off-4));have kD:=h.rd;have lu:=h.ok.off;refine⟨⟨by show s.off-4≤len;omega,cq (Nat.mod_lt _ Od) Om,by show s.rd-32<256;omega⟩,by show s.rd-32≤64;omega,by rw[h.n];show _=8*(s.off-4)+(64-(s.rd-32));omega,?_⟩;show R=(s.val*2^32%18446744073709551616|||eR xs (k+(s.off-4)))%2^(64-(s.rd-32))*2^(8*(s.off-4))+tailV xs k (s.off-4);have ht:tailV xs k s.off=tailV xs k (s.off-4)+eR xs (k+(s.off-4))*2^(8*(s.off-4)):=by
    have:=jO xs k (s.off-4) 4;grind [xj,tailV]
  rw[NG (e:=32) Om hr kD,h.R,ht,Nat.add_mul,Nat.mul_assoc, ←Nat.pow_add,show 32+8*(s.off-4)=8*s.off by omega];omega
theorem gR.jd (h:gR xs k len s n R) (hb:Bytes xs) (ho:32≤s.rd→4≤s.off):gR xs k len (s.jd xs k) n R∧(s.jd xs k).rd≤32∧s.off≤(s.jd xs k).off+4∧(s.jd xs k).off≤s.off:=by
  unfold BR.jd;split
  · grind
  · exact⟨h.eW hb Om (ho Om),by have:=h.rd;simp[BR.ke];omega,by simp[BR.ke];omega,by simp[BR.ke]⟩
theorem gR.eE (h:gR xs k len s n R) (hb:Bytes xs) (h8:32≤s.rd→s.off<5→8*s.off≤s.rd):gR xs k len (BR.eE xs k s) n R∧((BR.eE xs k s).rd≤32∨(BR.eE xs k s).off=0)∧(BR.eE xs k s).off≤s.off:=by
  unfold BR.eE;split
  · grind
  · split
    · exact⟨h.eW hb Om Om,by have:=h.rd;simp[BR.ke];omega,by simp[BR.ke]⟩
    · exact⟨h.loads hb _ (h8 Om Om) (Nat.le_refl _),.inr (by rw[BR.jP];omega),by rw[BR.jP];omega⟩
theorem gR.skip {m:Nat} (h:gR xs k len s n R) (hb:Bytes xs) (hr:s.rd+m≤64):gR xs k len (s.fm m) (n-m) (R%2^(n-m)):=by
  have kD:(s.fm m).rd=s.rd+m:=by simp[BR.fm];omega
  refine⟨⟨h.ok.off,h.ok.val,by rw[kD];omega⟩,Om,by rw[h.n,kD];show _=8*s.off+_;omega,?_⟩;rw[kD];show R%2^(n-m)=s.val%2^(64-(s.rd+m))*2^(8*s.off)+tailV xs k s.off;have hn:n-m=(64-s.rd-m)+8*s.off:=by rw[h.n];omega
  have ht:=gD hb k s.off;rw[h.R,hn,Nat.pow_add];have e1:s.val%2^(64-s.rd)*2^(8*s.off)+tailV xs k s.off=2^(8*s.off)*(s.val%2^(64-s.rd))+tailV xs k s.off:=by rw[Nat.mul_comm]
  rw[e1,Nat.mul_comm (2^(64-s.rd-m)),Nat.mod_mul,Nat.mul_add_mod,Nat.mod_eq_of_lt ht,Nat.mul_add_div (Nat.pow_pos Om),Nat.div_eq_of_lt ht,Nat.add_zero];rw[Nat.mod_mod_of_dvd _ (Nat.pow_dvd_pow 2 Om),show 64-s.rd-m=64-(s.rd+m) by omega,Nat.mul_comm,Nat.add_comm]
theorem gR.bits {m:Nat} (h:gR xs k len s n R) (hb:Bytes xs) (hm:1≤m) (asI:m≤16) (hr:s.rd+m≤64):s.mq m=R/2^(n-m)∧s.mq m<2^m:=by
  have ht:=gD hb k s.off;have pos:∀m:Nat,0<2^m:=fun m=>Nat.pow_pos Om
  have e1:s.rd&&&63=s.rd:=by rw[show(63:Nat)=2^6-1 from rfl,Nat.and_two_pow_sub_one_eq_mod];exact Nat.mod_eq_of_lt Om
  have e2:(64-m)&&&63=64-m:=by rw[show(63:Nat)=2^6-1 from rfl,Nat.and_two_pow_sub_one_eq_mod];exact Nat.mod_eq_of_lt Om
  have ux:(18446744073709551616:Nat)=2^(64-s.rd)*2^s.rd:=by rw[←Nat.pow_add,show 64-s.rd+s.rd=64 by omega]
  have key:s.val*2^(s.rd&&&63)%18446744073709551616/2^((64-m)&&&63)=R/2^(n-m):=by
    rw[e1,e2,ux,Nat.mul_mod_mul_right,show 64-m=(64-m-s.rd)+s.rd by omega,Nat.pow_add,Nat.mul_div_mul_right _ _ (pos _)];rw[h.R,show n-m=8*s.off+(64-m-s.rd) by rw[h.n];omega,Nat.pow_add, ←Nat.div_div_eq_div_mul,Nat.add_comm,Nat.add_mul_div_right _ _ (pos _),Nat.div_eq_of_lt ht,Nat.zero_add]
  have eU:R/2^(n-m)<2^m:=by
    rw[Nat.div_lt_iff_lt_mul (pos _), ←Nat.pow_add,show m+(n-m)=n by rw[h.n];omega];exact h.lt hb
  have CE:(2:Nat)^m≤2^16:=Nat.pow_le_pow_right Om asI;grind [BR.mq]
theorem BR.vC (hl:len<8):8*(BR.eE xs k ⟨len,0,64⟩).off≤(BR.eE xs k ⟨len,0,64⟩).rd:=by
  grind [BR.eE,BR.ke,BR.jP,BR.qf]
theorem gR.start (hb:Bytes xs) (hl:1≤len):gR xs k len (BR.nc xs k len) (8*len) (tailV xs k len)∧((BR.nc xs k len).rd≤32∨(BR.nc xs k len).off=0):=by
  unfold BR.nc;split
  · rename_i h8;refine⟨⟨⟨Oi,m9 hb _,Oi⟩,Oi,Oz,?_⟩,.inl Oi⟩;show tailV xs k len=mg xs (k+(len-8))%2^64*2^(8*(len-8))+tailV xs k (len-8);rw[Nat.mod_eq_of_lt (m9 hb _),Dm hb];have:=jO xs k (len-8) 8;grind
  · rename_i h8;have h0:gR xs k len ⟨len,0,64⟩ (8*len) (tailV xs k len):=⟨⟨Nat.le_refl _,Oi,Oi⟩,Oi,Oi,Oi⟩;obtain⟨h1,Wb⟩:=h0.eE hb (fun _ _=>Oz);have hs:=BR.vC (xs:=xs) (k:=k) (show len<8 by omega);obtain⟨h2,h3,_⟩:=h1.eE hb (fun _ _=>hs);exact⟨h2,h3⟩
theorem gR.ta {n R:Nat} (hb:Bytes xs) (hl:len=n/8+1) (hR:R<2^n) (hv:tailV xs k len=2^n+R):
    gR xs k len (BR.gd xs k len) n R∧0<xs.getD (k+(len-1)) 0∧(BR.gd xs k len).rd≤40∨gR xs k len (BR.gd xs k len) n R∧0<xs.getD (k+(len-1)) 0∧(BR.gd xs k len).off=0:=by
  subst hl;obtain⟨hS,hr⟩:=gR.start (k:=k) (len:=n/8+1) hb Om;simp only[tailV] at hv;unfold BR.gd;rw[Nat.add_sub_cancel];have wi:=gD hb k (n/8);have hm:tailV xs k (n/8+1)%2^n=R:=by
    simp only[tailV];rw[hv,Nat.add_comm,Nat.add_mod_right,Nat.mod_eq_of_lt hR]
  generalize hx:xs.getD (k+n/8) 0=x at hv;have hp:0<2^(8*(n/8)):=Nat.pow_pos Om;have e:(2:Nat)^n=2^(n%8)*2^(8*(n/8)):=by rw[←Nat.pow_add];congr 1;omega
  have y5:x=2^(n%8)+R/2^(8*(n/8)):=by
    have h1:x=(tailV xs k (n/8)+x*2^(8*(n/8)))/2^(8*(n/8)):=by rw[Nat.add_mul_div_right _ _ hp,Nat.div_eq_of_lt wi,Nat.zero_add]
    rw[h1,hv,e,Nat.add_comm,Nat.add_mul_div_right _ _ hp,Nat.add_comm]
  have hr8:R/2^(8*(n/8))<2^(n%8):=by rw[Nat.div_lt_iff_lt_mul hp, ←e];exact hR
  have L5:aq x=n%8+1:=by rw[y5];exact zX hr8
  have rG:0<x:=by rw[y5];exact Nat.lt_of_lt_of_le (Nat.pow_pos Om) (Nat.le_add_right _ _)
  rw[L5];have kD:(BR.nc xs k (n/8+1)).rd+(8-(n%8+1-1))≤64:=by
    rcases hr with hr|hr
    · omega
    · have:=hS.n;rw[hr] at this;omega
  have hk:=hS.skip hb kD;rw[show 8*(n/8+1)-(8-(n%8+1-1))=n by omega,hm] at hk;rcases hr with hr|hr
  · exact .inl ⟨hk,rG,by show _%256≤40;omega⟩
  · exact .inr ⟨hk,rG,hr⟩
end
def flatC:Nat→List Nat→List Nat
  |_,[]=>[]
  |s,n::cs=>List.replicate n s++flatC (s+1) cs
def fG (size:Nat):Nat:=size/2+size/8+3
def place (size:Nat):List Nat→Nat→List Nat→List Nat
  |[],_,cells=>cells
  |s::t,p,cells=>place size t ((p+fG size)%size) (cells.set p s)
abbrev Cell:=Nat × Nat × Nat
def Dv (log s k:Nat):Cell:=(s,log-(aq k-1),k*2^(log-(aq k-1))-2^log)
def buildD (log:Nat):List Nat→List Nat→List Cell
  |[],_=>[]
  |s::t,nx=>Dv log s (nx.getD s 0)::buildD log t (nx.set s (nx.getD s 0+1))
theorem qY (log:Nat):∀(t nx:List Nat),(buildD log t nx).length=t.length
  |[],_=>rfl
  |s::t,nx=>by simp[buildD,qY log t]
theorem uT:∀(cs:List Nat) (s:Nat),(flatC s cs).length=cs.sum
  |[],_=>rfl
  |n::cs,s=>by simp[flatC,uT cs]
theorem oS:∀(cs:List Nat) (s x:Nat),(flatC s cs).count x=if s≤x then cs.getD (x-s) 0 else 0
  |[],s,x=>by simp[flatC]
  |n::cs,s,x=>by
    have hc:(List.replicate n s).count x=if s=x then n else 0:=by rw[List.count_replicate];by_cases e:s=x<;>simp[e]
    rw[flatC,List.count_append,hc,oS cs (s+1) x];grind
def abI (log:Nat) (cs:List Nat):List Nat:=place (2^log) (flatC 0 cs) 0 (List.replicate (2^log) 0)
structure Wi (log:Nat) (cs:List Nat):Prop where
  lg:log=5∨log=6
  sum:cs.sum=2^log
  len:cs.length≤256
  le:∀c ∈ cs,c<2^log
theorem rH (log:Nat):∀(t nx:List Nat) (u:Nat),u<t.length→(∀s ∈ t,s<nx.length)→(buildD log t nx).getD u (0,0,0)=Dv log (t.getD u 0) (nx.getD (t.getD u 0) 0+(t.take u).count (t.getD u 0))
  |[],nx,u,h,_=>by simp at h
  |s::t,nx,0,h,hs=>by simp[buildD]
  |s::t,nx,u+1,h,hs=>by
    have hu:u<t.length:=by simpa using h
    simp only[buildD,List.getD_cons_succ,List.take_succ_cons];rw[rH log t _ u hu (fun x hx=>by simp;exact hs x (List.mem_cons_of_mem _ hx))];grind
def abJ (log:Nat) (cs:List Nat):List Cell:=buildD log (abI log cs) cs
theorem NH {log k n:Nat} (h1:1≤k) (h:k+1≤2*n) (hn:2*n<2^log):1≤log-(aq k-1):=by
  have:=cL (n:=k) (k:=log) Om;grind
def fN (T:List Cell):List Nat→Nat
  |a::b::c::r=>(T.getD a (0,0,0)).2.1+fN T (b::c::r)
  |_=>0
def fR (T:List Cell):List Nat→Nat
  |a::b::c::r=>(c-(T.getD a (0,0,0)).2.2)*2^fN T (b::c::r)+fR T (b::c::r)
  |_=>0
structure kV (log:Nat) (T:List Cell) (text at_:List Nat):Prop where
  len:at_.length=text.length
  two:2≤text.length
  lt:∀a ∈ at_,a<2^log
  sym:∀i,i<text.length→(T.getD (at_.getD i 0) (0,0,0)).1=text.getD i 0
  step:∀i,i+2<text.length→(T.getD (at_.getD i 0) (0,0,0)).2.2≤at_.getD (i+2) 0∧at_.getD (i+2) 0<(T.getD (at_.getD i 0) (0,0,0)).2.2+2^(T.getD (at_.getD i 0) (0,0,0)).2.1
theorem td {T:List Cell} {at_:List Nat} {i:Nat} (h:i+2<at_.length):fN T (at_.drop i)=(T.getD (at_.getD i 0) (0,0,0)).2.1+fN T (at_.drop (i+1))∧
    fR T (at_.drop i)=(at_.getD (i+2) 0-(T.getD (at_.getD i 0) (0,0,0)).2.2)*2^fN T (at_.drop (i+1))+fR T (at_.drop (i+1)):=by
  rw[List.drop_eq_getElem_cons (show i<at_.length by omega),List.drop_eq_getElem_cons (show i+1<at_.length by omega),List.drop_eq_getElem_cons (show i+1+1<at_.length by omega)];grind [fN,fR]
theorem rI {T:List Cell} {at_:List Nat} {i:Nat} (h:at_.length≤i+2):fN T (at_.drop i)=0∧fR T (at_.drop i)=0:=by
  have:(at_.drop i).length≤2:=by simp;omega
  match hl:at_.drop i,this with
  |[],_=>exact⟨rfl,rfl⟩
  |[a],_=>exact⟨rfl,rfl⟩
  |[a,b],_=>exact⟨rfl,rfl⟩
  |a::b::c::r,h'=>simp at h'
theorem kV.lt_ {log:Nat} {T:List Cell} {text at_:List Nat} (h:kV log T text at_):∀d i,at_.length-i=d→fR T (at_.drop i)<2^fN T (at_.drop i)
  |0,i,hd=>by have:=rI (T:=T) (at_:=at_) (i:=i) Om;rw[this.1,this.2];decide
  |d+1,i,hd=>by
    rcases Nat.lt_or_ge (i+2) at_.length with hi|hi
    · obtain⟨e1,e2⟩:=td (T:=T) hi;have ih:=kV.lt_ h d (i+1) Om;have hs:=h.step i (by rw[←h.len];exact hi);rw[e1,e2,Nat.pow_add];have:(at_.getD (i+2) 0-(T.getD (at_.getD i 0) (0,0,0)).2.2)*2^fN T (at_.drop (i+1))≤(2^(T.getD (at_.getD i 0) (0,0,0)).2.1-1)*2^fN T (at_.drop (i+1)):=Nat.mul_le_mul_right _ Om;rw[Nat.sub_mul (2^_) 1,Nat.one_mul] at this;have h2:2^fN T (at_.drop (i+1))≤2^(T.getD (at_.getD i 0) (0,0,0)).2.1*2^fN T (at_.drop (i+1)):=Nat.le_mul_of_pos_left _ (Nat.pow_pos Om);omega
    · grind [rI]
structure kF (xs:List Nat) (k len:Nat) (T:List Cell) (at_:List Nat) (i:Nat) (s:BR):Prop where
  pos:gR xs k len s (fN T (at_.drop i)) (fR T (at_.drop i))
theorem kF.bits {xs:List Nat} {k len log i:Nat} {T:List Cell} {text at_:List Nat} {s:BR} (h:kF xs k len T at_ i s) (hT:kV log T text at_) (hb:Bytes xs) (hi:i+2<text.length) (asJ:(T.getD (at_.getD i 0) (0,0,0)).2.1≤16) (h1:1≤(T.getD (at_.getD i 0) (0,0,0)).2.1)
    (hr:s.rd+(T.getD (at_.getD i 0) (0,0,0)).2.1≤64∨s.off=0):
    s.rd+(T.getD (at_.getD i 0) (0,0,0)).2.1≤64∧(T.getD (at_.getD i 0) (0,0,0)).2.2+s.mq (T.getD (at_.getD i 0) (0,0,0)).2.1=at_.getD (i+2) 0∧kF xs k len T at_ (i+1) (s.fm (T.getD (at_.getD i 0) (0,0,0)).2.1):=by
  have hi':i+2<at_.length:=by rw[hT.len];exact hi
  obtain⟨e1,e2⟩:=td (T:=T) hi';have eU:=kV.lt_ hT _ (i+1) rfl;have hs:=hT.step i hi;have hr':s.rd+(T.getD (at_.getD i 0) (0,0,0)).2.1≤64:=by
    rcases hr with h'|h'
    · exact h'
    · have:=h.pos.n;rw[e1,h'] at this;omega
  obtain⟨hv,_⟩:=h.pos.bits hb h1 asJ hr';have hk:=h.pos.skip hb hr';generalize hn:(T.getD (at_.getD i 0) (0,0,0)).2.1=m at*;generalize (T.getD (at_.getD i 0) (0,0,0)).2.2=b at*;have pos:0<2^fN T (at_.drop (i+1)):=Nat.pow_pos Om;rw[e1,e2,Nat.add_sub_cancel_left] at hv;rw[Nat.add_comm (_*_),Nat.add_mul_div_right _ _ pos,Nat.div_eq_of_lt eU,Nat.zero_add] at hv;rw[e1,e2,Nat.add_sub_cancel_left,Nat.add_comm (_*_),Nat.add_mul_mod_self_right,Nat.mod_eq_of_lt eU] at hk;exact⟨hr',Om,⟨hk⟩⟩
def ez (v n:Nat):List Nat:=(List.range n).map fun i=>v/2^i%2
def vD (v n:Nat):List Nat:=(List.range n).map fun i=>v/2^(n-1-i)%2
theorem bA (v n:Nat):(ez v n).length=n:=by simp[ez]
theorem tf (v n:Nat):(vD v n).length=n:=by simp[vD]
theorem KI (v n:Nat):ez v (n+1)=ez v n++[v/2^n%2]:=by simp[ez,List.range_succ]
theorem jQ (v n:Nat):om (ez v n):=fun x hx=>by
  grind [ez]
theorem F3 (v n:Nat):vD v (n+1)=v/2^n%2::vD v n:=by
  simp only[vD,List.range_succ_eq_map,List.map_cons,List.map_map];have e:(List.range n).map ((fun i=>v/2^(n+1-1-i)%2) ∘ Nat.succ)=(List.range n).map fun i=>v/2^(n-1-i)%2:=List.map_congr_left fun i hi=>by
    grind
  rw[e];simp
theorem oU:∀(n v:Nat),bitsV (vD v n)=v%2^n
  |0,v=>by simp[vD,bitsV,Nat.mod_one]
  |n+1,v=>by
    rw[F3,bitsV,tf,oU n v,Nat.pow_succ,Nat.mod_mul,Nat.mul_comm];omega
def lowV:List Nat→Nat
  |[]=>0
  |b::bs=>b+2*lowV bs
theorem fQ:∀as bs:List Nat,lowV (as++bs)=lowV as+2^as.length*lowV bs
  |[],bs=>by simp[lowV]
  |a::as,bs=>by
    simp only[List.cons_append,lowV,fQ as bs,List.length_cons,Nat.pow_succ,Nat.mul_add];grind
theorem fH:∀(n v:Nat),lowV (ez v n)=v%2^n
  |0,v=>by simp[ez,lowV,Nat.mod_one]
  |n+1,v=>by
    rw[KI,fQ,fH n v,bA,Nat.pow_succ,Nat.mod_mul];simp[lowV]
theorem wE:∀{bs:List Nat},om bs→lowV bs<2^bs.length
  |[],_=>by simp[lowV]
  |b::bs,h=>by
    have h1:=h b List.mem_cons_self;have h2:=wE (bs:=bs) fun x hx=>h x (List.mem_cons_of_mem _ hx)
    grind [lowV]
theorem Wj {a b:List Nat} {i:Nat} (h:a.take i=b.take i) (ha:i<a.length) (hb:i<b.length) (he:a.getD i 0=b.getD i 0):a.take (i+1)=b.take (i+1):=by
  rw[List.take_succ_eq_append_getElem ha,List.take_succ_eq_append_getElem hb,h];grind
theorem Wk {a b:List Nat} {i:Nat} (h:a.take i=b.take i) (ha:a.length≤i) (hb:b.length≤i):a=b:=by
  rwa [List.take_of_length_le ha,List.take_of_length_le hb] at h
def abK (xs:List Nat) (p:Nat):Nat:=xs.getD (p/8) 0/2^(p%8)%2
theorem KJ {xs:List Nat} (hb:Bytes xs) {p n:Nat} (h:p/8<n):abK xs p=tailV xs 0 n/2^p%2:=by
  unfold abK;rw[←xp hb h];have e:(2:Nat)^p=2^(8*(p/8))*2^(p%8):=by rw[←Nat.pow_add];congr 1;omega
  rw[e, ←Nat.div_div_eq_div_mul];generalize tailV xs 0 n/2^(8*(p/8))=q;have Dr:(256:Nat)=2^(p%8)*2^(8-p%8):=by rw[←Nat.pow_add,show p%8+(8-p%8)=8 by omega]
  rw[Dr,Nat.mod_mul_right_div_self];have:2∣2^(8-p%8):=by rw[show 8-p%8=(7-p%8)+1 by omega,Nat.pow_succ];exact Nat.dvd_mul_left _ _
  simp_all
def bitsN (xs:List Nat) (p:Nat):Nat→Nat
  |0=>0
  |n+1=>bitsN xs p n+abK xs (p+n)*2^n
theorem xq {xs:List Nat} (hb:Bytes xs) {p m:Nat}:∀n,(p+n+7)/8≤m→bitsN xs p n=tailV xs 0 m/2^p%2^n
  |0,_=>by simp[bitsN,Nat.mod_one]
  |n+1,h=>by
    simp only[bitsN];rw[xq (m:=m) hb n Om,KJ hb (n:=m) Om,Nat.pow_succ,Nat.mod_mul,Nat.pow_add,Nat.div_div_eq_div_mul,Nat.mul_comm (2^n)]
theorem qg (n i:Nat):(List.replicate n 0).getD i 0=0:=by
  grind
def nzc:List Nat→Nat
  |[]=>0
  |x::xs=>(if x=0 then 0 else 1)+nzc xs
def gf:List Nat→Nat
  |[]=>0
  |x::xs=>(if x=0 then 0 else 2^(11-x))+gf xs
theorem iK {xs:List Nat} {i:Nat} (h:i<xs.length):xs.take (i+1)=xs.take i++[xs.getD i 0]:=by
  simp_all
theorem tg:∀xs ys:List Nat,gf (xs++ys)=gf xs+gf ys
  |[],ys=>by simp[gf]
  |x::xs,ys=>by simp only[List.cons_append,gf,tg xs ys];omega
def dW (xs:List Nat) (b:Nat):Prop:=∀x ∈ xs,x≤b
theorem dW.at_ {xs:List Nat} {b:Nat} (h:dW xs b) (i:Nat):xs.getD i 0≤b:=by
  rw[List.getD_eq_getElem?_getD];rcases Nat.lt_or_ge i xs.length with hi|hi
  · simp only[hi,List.getElem?_eq_getElem,Option.getD_some];exact h _ (List.getElem_mem hi)
  · grind
def gE (xs:List Nat):Prop:=xs.length≤256∧dW xs 11∧gf xs=2048∧1<nzc xs
instance (xs:List Nat):Decidable (gE xs):=by unfold gE dW;exact inferInstance
theorem ij {xs:List Nat} {i:Nat} (h:i<xs.length):xs.getD i 0 ∈ xs:=by simp[List.getD_eq_getElem?_getD,h]
def nx (ls:List Nat):Nat→Nat
  |0=>0
  |d+1=>(nx ls d+ls.count (11-d))/2
def CF (ls:List Nat) (m:Nat):Nat:=nx ls (11-m)
theorem xr (ls:List Nat) {m:Nat} (h1:1≤m) (h:m≤11):CF ls (m-1)=(CF ls m+ls.count m)/2:=by
  unfold CF;rw[show 11-(m-1)=(11-m)+1 by omega];grind [nx]
def kf (ls:List Nat) (s:Nat):Nat:=CF ls (ls.getD s 0)+(ls.take s).count (ls.getD s 0)
def gS (ls:List Nat):Prop:=∀m,1≤m→m≤11→(CF ls m+ls.count m)%2=0
abbrev Sli:=Option Addr × Nat × Nat
def ajc (T:List Sli):List Value:=T.map fun t=>.slice t.1 t.2.1 t.2.2
@[simp] theorem YX (T:List Sli):(ajc T).length=T.length:=by simp[ajc]
@[simp] theorem Wl (k:IntKind) (xs:List Int):(ints k xs).length=xs.length:=by simp[ints]
theorem F4 (k:IntKind) (n:Nat):aa k (List.replicate n 0)=ints k (List.replicate n 0):=by simp[aa,ints]
section
variable {P:Program} {K:Kx} {Q:Exit→Act→World→Prop} {ρ:aC} {l l' r:List au} {cd:Code} {e:Exit}
theorem G.perm (hp:l.Perm l') (h:G P K Q cd ρ l' r):G P K Q cd ρ l r:=fun a w ha=>h a w (ha.perm hp)
theorem GQ.perm (hp:l.Perm l') (h:GQ K Q e ρ l' r):GQ K Q e ρ l r:=fun a w ha=>h a w (ha.perm hp)
theorem G.ord {p rest:List au} (is:List Nat) (hp:pickS is l=some (p,rest)) (h:G P K Q cd ρ (p++rest) r):G P K Q cd ρ l r:=G.perm (iy _ _ _ _ hp) h
theorem GQ.ord {p rest:List au} (is:List Nat) (hp:pickS is l=some (p,rest)) (h:GQ K Q e ρ (p++rest) r):GQ K Q e ρ l r:=GQ.perm (iy _ _ _ _ hp) h
theorem GQ.KK {p rest:List au} (k:Nat) (is:List Nat) (hp:pickS is l=some (p,rest)) (h:GQ K Q e ρ ((p++rest).take k++(p++rest).drop k) r):GQ K Q e ρ l r:=GQ.ord is hp (by rw[List.take_append_drop] at h;exact h)
end
def lv (ls:List Nat) (c:Nat):Nat × Nat:=(ls.getD c 0,kf ls c)
def codeBits (ls:List Nat):List Nat→List Nat
  |[]=>[]
  |c::t=>vD (kf ls c) (ls.getD c 0)++codeBits ls t
theorem kg (ls:List Nat):∀t:List Nat,(codeBits ls t).length=tN (lv ls) t
  |[]=>rfl
  |c::t=>by simp only[codeBits,List.length_append,tf,kg ls t,tN,lv]
theorem oV (ls:List Nat):∀t:List Nat,(∀c ∈ t,kf ls c<2^ls.getD c 0)→bitsV (codeBits ls t)=tR (lv ls) t
  |[],_=>rfl
  |c::t,h=>by
    simp only[codeBits];rw[na,oU,oV ls t (fun x hx=>h x (List.mem_cons_of_mem _ hx)),kg,Nat.mod_eq_of_lt (h c List.mem_cons_self)]
    rfl
def vE (xs:List Nat) (q j:Nat):List Nat:=(xs.drop (j*q)).take (min ((j+1)*q) xs.length-j*q)
structure F5 (ls t ys:List Nat):Prop where
  even:gS ls
  all:∀c ∈ t,c<ls.length∧1≤ls.getD c 0∧ls.getD c 0≤11
  bytes:Bytes ys
  len:ys.length=tN (lv ls) t/8+1∧ys.length≤65535
  num:tailV ys 0 (tN (lv ls) t/8+1)=2^tN (lv ls) t+bitsV (codeBits ls t)
def mr (Y:List (List Nat)):List Nat:=Y.flatMap fun y=>[y.length%256,y.length/2^8]
theorem F6 {Y:List (List Nat)} {y:List Nat} {n:Nat} (h:Y.length<3) (hn:y.length=n):mr ((Y++[y]).take 3)=mr (Y.take 3)++[n%256,n/2^8]:=by
  subst hn;rw[List.take_of_length_le (show(Y++[y]).length≤3 by simp;omega),List.take_of_length_le (show Y.length≤3 by omega)];simp[mr]
def gW (di v:Nat):List Nat:=if v<2^aq di-1-di then ez v (aq di-1) else if v<2^(aq di-1) then ez v (aq di) else ez (v+(2^aq di-1-di)) (aq di)
def zerosB:Nat→List Nat
  |0=>ez 0 2
  |1=>ez 1 2
  |2=>ez 2 2
  |m+3=>ez 3 2++zerosB m
theorem Dw {m:Nat} (h:3≤m):zerosB m=ez 3 2++zerosB (m-3):=by
  obtain⟨k,rfl⟩:∃k,m=k+3:=⟨m-3,Om⟩
  rfl
theorem F7 {m:Nat} (h:m<3):zerosB m=ez m 2:=by
  match m,h with
  |0,_=>rfl
  |1,_=>rfl
  |2,_=>rfl
inductive Descr:Nat→List Nat→List Nat→Prop
  |done (cs:List Nat):Descr 0 cs []
  |pos (left n:Nat) (cs bits:List Nat):0<n→n≤left→Descr (left-n) cs bits→Descr left (n::cs) (gW (left+1) (n+1)++bits)
  |zer (left z c:Nat) (cs bits:List Nat):0<left→0<c→Descr left (c::cs) bits→Descr left (0::(List.replicate z 0++c::cs)) (gW (left+1) 1++(zerosB z++bits))
theorem qh {xs:List Nat} {i:Nat} (h:i<xs.length):xs.drop i=xs.getD i 0::xs.drop (i+1):=by rw[List.drop_eq_getElem_cons h];simp[h]
theorem oY:∀(xs:List Nat) (i:Nat),(xs.take i).sum≤xs.sum
  |[],i=>by simp
  |x::xs,0=>by simp
  |x::xs,i+1=>by
    simp_all [oY]
end Go.Proofs.YtekcchgffhphbaaGreatDoor
