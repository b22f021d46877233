/- The walk's own engine. -/
import Derived.Still
import Derived.OrdersHeld
import Derived.Tactics
import Derived.KernelRfl
import Derived.Below
import Derived.IntWalk
import Derived.ArgAppend
import Derived.Laws.OwnMore
set_option linter.unusedVariables false
set_option linter.unusedSimpArgs false
set_option linter.unnecessarySimpa false
namespace Go.Proofs.YtaphmhiddngdoaaGreatDoor
theorem Om {p:Prop} (h:p:=by omega):p:=h
theorem Oa {p:Prop} (h:p:=by assumption):p:=h
theorem Od {p:Prop} (h:p:=by decide):p:=h
theorem Oy {p:Prop} (h:p:=by first|omega|(simp;omega)|simp):p:=h
theorem Oz {p:Prop} (h:p:=by simp;omega):p:=h
theorem Ou {p:Prop} (h:p:=by first|omega|(simp;omega)):p:=h
theorem Ow {p:Prop} (h:p:=by first|rfl|(simp;omega)|simp_all):p:=h
theorem Oi {p:Prop} (h:p:=by simp):p:=h
theorem Oq {a b c d:Prop} (h1:a:=by first|omega|simp) (h2:b:=by first|omega|(simp;omega)) (h3:c:=by first|omega|(simp;omega)) (h4:d:=by first|rfl|omega|(simp;omega)|simp):a∧b∧c∧d:=⟨h1,h2,h3,h4⟩
structure aV where
  b:Nat
  o:Nat
  cs:List Value
  sh:Option (TypeId × Nat):=none
def aV.has (s:aV) (b j:Nat):Prop:=s.b=b∧s.o≤j∧j<s.o+s.cs.length
def aV.tV (s:aV) (w:World):Prop:=
  (∀j v,s.cs[j]? =some v→w.cell? ⟨s.b,s.o+j,none⟩=some v)∧
  (∀j,j<s.cs.length→w.frozen? ⟨s.b,s.o+j,none⟩=false)∧
  (∀x,s.sh=some x→w.shape? s.b=some x)
def aV.apart (s t:aV):Prop:=∀b j:Nat,s.has b j→¬t.has b j
theorem aV.apart.symm {s t:aV} (h:s.apart t):t.apart s:=fun b j h1 h2=>h b j h2 h1
structure St (l r:List aV) (w:World):Prop where
  hl:∀s ∈ l,s.tV w
  hr:∀s ∈ r,s.tV w
  pw:l.Pairwise aV.apart
  lr:∀s ∈ l,∀t ∈ r,s.apart t
structure gh (l:List aV) (w w':World):Prop where
  os:w'.os=w.os
  tape:w'.tape=w.tape
  output:w'.output=w.output
  size:w.heap.size≤w'.heap.size
  cells:∀(b:Nat) (c:Array Value) (T:TypeId) (f:Nat × Nat),w.heap[b]? =some (.cells c T f)→∃c',w'.heap[b]? =some (.cells c' T f)∧c'.size=c.size∧∀j:Nat,(∀s ∈ l,¬s.has b j)→c'[j]? =c[j]?
  other:∀(b:Nat) (o:Obj),w.heap[b]? =some o→(∀c T f,o≠Obj.cells c T f)→w'.heap[b]? =some o
theorem gh.refl (l:List aV) (w:World):gh l w w:=
  ⟨rfl,rfl,rfl,Nat.le_refl _,fun _ c _ _ h=>⟨c,h,rfl,fun _ _=>rfl⟩,fun _ _ h _=>h⟩
theorem gh.trans' {l l2:List aV} {w w1 w2:World} (h:gh l w w1) (k:gh l2 w1 w2)
    (hl:∀s ∈ l2,∀b j,s.has b j→(∃t ∈ l,t.has b j)∨w.heap.size≤b):gh l w w2:=by
  refine⟨k.os.trans h.os,k.tape.trans h.tape,k.output.trans h.output,Nat.le_trans h.size k.size,?_,?_⟩
  · intro b c T f hb;obtain⟨c1,h1,Bd,lx⟩:=h.cells b c T f hb;obtain⟨c2,h2,Dp,IL⟩:=k.cells b c1 T f h1;refine⟨c2,h2,Dp.trans Bd,fun j hj=>?_⟩;rw[IL j ?_,lx j hj];intro s hs hh;rcases hl s hs b j hh with ⟨t,ht,vq⟩|zR
    · exact hj t ht vq
    · have:b<w.heap.size:=(Array.getElem?_eq_some_iff.1 hb).1;omega
  · intro b o hb ho;exact k.other b o (h.other b o hb ho) ho
theorem gh.alloc (l:List aV) (w:World) (o:Obj):gh l w (w.alloc o):=by
  have key:∀b x,w.heap[b]? =some x→(w.alloc o).heap[b]? =some x:=fun b x hb=>by
    have eU:b<w.heap.size:=(Array.getElem?_eq_some_iff.1 hb).1;show(w.heap.push o)[b]? =_;rw[Array.getElem?_push,if_neg Om,hb]
  exact⟨rfl,rfl,rfl,Oi,fun b c T f h=>⟨c,key b _ h,rfl,fun _ _=>rfl⟩,fun b x h _=>key b x h⟩
theorem gh.setCell {l:List aV} (w:World) {b j:Nat} (v:Value) (hs:∃s ∈ l,s.has b j):gh l w (w.setCell ⟨b,j,none⟩ v):=by
  refine⟨rfl,rfl,rfl,Oi,?_,?_⟩
  · intro b' c T f hb;by_cases O6:b=b'
    · subst O6;refine⟨c.setIfInBounds j v,by simp[World.setCell,Array.getElem?_modify,hb],Oi,fun i hi=>?_⟩;rw[Array.getElem?_setIfInBounds];split
      · rename_i e;subst e;obtain⟨s,mw,hh⟩:=hs;exact(hi s mw hh).elim
      · rfl
    · exact⟨c,by simp[World.setCell,Array.getElem?_modify,hb,O6],rfl,fun _ _=>rfl⟩
  · intro b' o hb ho;by_cases O6:b=b'
    · subst O6;cases o<;>first|exact(ho _ _ _ rfl).elim|simp[World.setCell,Array.getElem?_modify,hb]
    · simp[World.setCell,Array.getElem?_modify,hb,O6]
theorem gh.cell {l:List aV} {w w':World} (h:gh l w w') {b j:Nat} {v:Value} (hj:∀s ∈ l,¬s.has b j) (hc:w.cell? ⟨b,j,none⟩=some v):w'.cell? ⟨b,j,none⟩=some v:=by
  unfold World.cell? at hc ⊢;cases hb:w.heap[b]? with
  |none=>simp[hb] at hc
  |some o=>
    cases o with
    |cells c T f=>
      obtain⟨c',h',_,IM⟩:=h.cells b c T f hb;simp only[hb,h'] at hc ⊢;rw[IM j hj];exact hc
    |_=>simp[hb] at hc
theorem World.PE {w:World} {b j:Nat} {v:Value} (h:w.cell? ⟨b,j,none⟩=some v):b<w.heap.size:=World.block_lt_of_cell? w _ h
theorem gh.frozen {l:List aV} {w w':World} (h:gh l w w') {b j:Nat} (hb:b<w.heap.size):w'.frozen? ⟨b,j,none⟩=w.frozen? ⟨b,j,none⟩:=by
  have GU:w.heap[b]? =some w.heap[b]:=Array.getElem?_eq_getElem hb;unfold World.frozen?;cases ho:w.heap[b] with
  |cells c T f=>
    rw[ho] at GU;obtain⟨c',h',_,_⟩:=h.cells b c T f GU;simp[GU,h']
  |_=>rw[ho] at GU;have:=h.other b _ GU Oi;simp[GU,this]
theorem gh.shape {l:List aV} {w w':World} (h:gh l w w') {b:Nat} {x:TypeId × Nat} (hx:w.shape? b=some x):w'.shape? b=some x:=by
  unfold World.shape? at hx ⊢;cases hb:w.heap[b]? with
  |none=>simp[hb] at hx
  |some o=>
    cases o with
    |cells c T f=>
      obtain⟨c',h',hs,_⟩:=h.cells b c T f hb;simp only[hb,h',hs] at hx ⊢;exact hx
    |_=>simp[hb] at hx
theorem aV.tV.lt {w:World} {s:aV} (hs:s.tV w) {b j:Nat} (h:s.has b j):b<w.heap.size:=by
  obtain⟨rfl,h1,h2⟩:=h;exact World.PE (hs.1 (j-s.o) (s.cs[j-s.o]' Om) Oi)
theorem aV.tV.PF {l:List aV} {w w':World} {s:aV} (hs:s.tV w) (h:gh l w w') (ha:∀t ∈ l,t.apart s):s.tV w':=by
  refine⟨fun j v hj=>?_,fun j hj=>?_,fun x hx=>h.shape (hs.2.2 x hx)⟩
  · have hlen:j<s.cs.length:=by
      rcases Nat.lt_or_ge j s.cs.length with h'|h'
      · exact h'
      · simp[List.getElem?_eq_none h'] at hj
    exact h.cell (fun t ht hh=>ha t ht s.b (s.o+j) hh ⟨rfl,Om,Om⟩) (hs.1 j v hj)
  · have eU:s.b<w.heap.size:=hs.lt ⟨rfl,Nat.le_add_right s.o j,Om⟩;exact(h.frozen eU).trans (hs.2.1 j hj)
section
variable {P:Program} {ops:Array Oper} {Q:Exit→Act→World→Prop} {md:Region.Mode} {E:Nat→Bool}
def Bm (P:Program) (md:Region.Mode) (ops:Array Oper) (E:Nat→Bool) (Q:Exit→Act→World→Prop):Nat→Array Bool→Act→World→Prop
  |0,listed,a,w=>Region.ready md ops listed=[]∧Q .normal a w
  |fuel+1,listed,a,w=>
    (Region.ready md ops listed=[]→Q .normal a w)∧
    ∀i ∈ Region.ready md ops listed,
      if E i then wpOp P ops Q i (Bm P md ops E Q fuel (listed.setIfInBounds i true)) a w
      else stOp P ops w i (fun a'=>Bm P md ops E Q fuel (listed.setIfInBounds i true) a' w) a
theorem q6:∀(fuel:Nat) (listed:Array Bool) (a:Act) (w:World),Bm P md ops E Q fuel listed a w→wpAny P md ops Q fuel listed a w
  |0,_,_,_,h=>h
  |fuel+1,listed,a,w,h=>⟨h.1,fun i hi=>by
      have h2:=h.2 i hi;by_cases hE:E i=true
      · rw[if_pos hE] at h2;exact wpOp_mono (fun a' w' h'=>q6 fuel _ a' w' h') h2
      · rw[if_neg hE] at h2;exact wpOp_of_stOp (fun a' h'=>q6 fuel _ a' w h') h2⟩
structure NB (md:Region.Mode) (ops:Array Oper) (listed:Array Bool) (i:Nat) (oi:Oper) (bh:Nat→Prop):Prop where
  un:∀j,j<ops.size→bh j→listed.getD j true=false
  chain:∀j oj,ops[j]? =some oj→bh j→j≠i→∃e ∈ oj.after,Region.binds md e=true∧bh e.on∧e.on<ops.size
  apart:∀j oj,ops[j]? =some oj→listed.getD j true=false→¬bh j→oi.apart ops oj=true
theorem vr {listed:Array Bool} {k:Nat} (h1:listed.getD k false=true) (h2:listed.getD k true=false):False:=by
  rcases Nat.lt_or_ge k listed.size with h'|h'
  · simp[h'] at h1 h2;rw[h1] at h2;cases h2
  · simp[Array.getElem?_eq_none h'] at h1
theorem NB.notReady {listed:Array Bool} {i:Nat} {oi:Oper} {bh:Nat→Prop} (h:NB md ops listed i oi bh) {j:Nat} (hj:j ∈ Region.ready md ops listed) (rT:j≠i):¬bh j:=by
  intro hb;obtain⟨r',oj,zS,tY⟩:=mem_ready.1 hj;obtain⟨e,he,hbi,hbe,eU⟩:=h.chain j oj zS hb rT;exact vr (tY e he hbi) (h.un e.on eU hbe)
theorem NB.put {listed:Array Bool} {i:Nat} {oi:Oper} {bh:Nat→Prop} (h:NB md ops listed i oi bh) {j:Nat} (hb:¬bh j) (r':listed.getD j true=false):NB md ops (listed.setIfInBounds j true) i oi bh:=by
  refine⟨fun k hk PG=>?_,h.chain,fun k ok hk hl PG=>?_⟩
  · by_cases IN:j=k
    · subst IN;exact(hb PG).elim
    · rw[getD_set_ne true IN];exact h.un k hk PG
  · by_cases IN:j=k
    · subst IN;exact h.apart j ok hk r' hb
    · rw[getD_set_ne true IN] at hl;exact h.apart k ok hk hl PG
theorem Bn {i:Nat} {oi:Oper} {v:Value} {bh:Nat→Prop} (hi:ops[i]? =some oi) (oS:∀(j:Nat) (o:Oper) cs b,ops[j]? =some o→o.op≠ .select cs b) (hEi:E i=false) (awQ:bh i):
    ∀(fuel:Nat) (listed:Array Bool) (a:Act) (w:World),NB md ops listed i oi bh→(∀j,j<ops.size→listed.getD j true=false→E j=true→bh j)→
      i ∈ Region.ready md ops listed→YieldsAt P ops w oi v a→
      Bm P md ops E Q fuel (listed.setIfInBounds i true) (a.put oi.dst v) w→Bm P md ops E Q (fuel+1) listed a w:=by
  intro fuel;induction fuel with
  |zero=>
    intro listed a w x7 hE _ hy H;rename_i hr;refine⟨fun h=>(by rw[h] at hr;cases hr),fun j hj=>?_⟩;by_cases zT:j=i
    · subst zT;rw[if_neg (by rw[hEi];simp)];exact hy.stOp hi H
    · have:=ready_mono hj zT;rw[H.1] at this;cases this
  |succ fuel ih=>
    intro listed a w x7 acR hr hy H;refine⟨fun h=>(by rw[h] at hr;cases hr),fun j hj=>?_⟩;by_cases zT:j=i
    · subst zT;rw[if_neg (by rw[hEi];simp)];exact hy.stOp hi H
    · have h1:=H.2 j (ready_mono hj zT);obtain⟨Dq,oj,zS,tY⟩:=mem_ready.1 hj;have ake:=(Array.getElem?_eq_some_iff.1 zS).1;have Up:=x7.notReady hj zT;have hEj:¬E j=true:=fun hE=>Up (acR j ake Dq hE)
      rw[if_neg hEj] at h1 ⊢;have h2:=stOp_put zS (x7.apart j oj zS Dq Up) (fun cs b=>oS i oi cs b hi) (fun cs b=>oS j oj cs b zS) hy h1;refine stOp_mono (fun a' h3=>ih (listed.setIfInBounds j true) a' w (x7.put Up Dq) (fun k hk hl hE=>?_) (ready_mono hr (Ne.symm zT)) h3.1 ?_) h2
      · by_cases IN:j=k
        · subst IN;exact(hEj hE).elim
        · rw[getD_set_ne true IN] at hl;exact acR k hk hl hE
      · rw[Array.setIfInBounds_comm _ _ zT];exact h3.2
theorem Bo {i:Nat} {oi:Oper} {v:Value} {bh:Nat→Prop} (hi:ops[i]? =some oi) (oS:∀(j:Nat) (o:Oper) cs b,ops[j]? =some o→o.op≠ .select cs b) (hEi:E i=false)
    (hQ:∀c a w,Q (.panic c) (a.put oi.dst v) w→Q (.panic c) a w):
    ∀(fuel:Nat) (listed:Array Bool) (a:Act) (w:World),NB md ops listed i oi bh→
      i ∈ Region.ready md ops listed→Yields P ops oi v a→
      Bm P md ops E Q fuel (listed.setIfInBounds i true) (a.put oi.dst v) w→Bm P md ops E Q (fuel+1) listed a w:=by
  have atY:∀{a:Act} {w:World},Yields P ops oi v a→YieldsAt P ops w oi v a:=fun h=>h.imp (fun ⟨h1,h2⟩=>⟨h1,.inl (h2 _)⟩) id
  intro fuel;induction fuel with
  |zero=>
    intro listed a w _ hr hy H;refine⟨fun h=>(by rw[h] at hr;cases hr),fun j hj=>?_⟩;by_cases zT:j=i
    · subst zT;rw[if_neg (by rw[hEi];simp)];exact(atY hy).stOp hi H
    · have:=ready_mono hj zT;rw[H.1] at this;cases this
  |succ fuel ih=>
    intro listed a w x7 hr hy H;refine⟨fun h=>(by rw[h] at hr;cases hr),fun j hj=>?_⟩;by_cases zT:j=i
    · subst zT;rw[if_neg (by rw[hEi];simp)];exact(atY hy).stOp hi H
    · have h1:=H.2 j (ready_mono hj zT);obtain⟨Dq,oj,zS,tY⟩:=mem_ready.1 hj;have Up:=x7.notReady hj zT;have vt:=x7.apart j oj zS Dq Up;by_cases hE:E j=true
      · rw[if_pos hE] at h1 ⊢;have h2:=wpOp_put zS vt (fun cs b=>oS i oi cs b hi) (fun cs b=>oS j oj cs b zS) hQ hy h1;refine wpOp_mono (fun a' w' h3=>ih (listed.setIfInBounds j true) a' w' (x7.put Up Dq) (ready_mono hr (Ne.symm zT)) h3.1 ?_) h2;rw[Array.setIfInBounds_comm _ _ zT];exact h3.2
      · rw[if_neg hE] at h1 ⊢;have h2:=stOp_put zS vt (fun cs b=>oS i oi cs b hi) (fun cs b=>oS j oj cs b zS) (atY hy) h1;obtain⟨hp1,Uq,v7⟩:=Oper.apart_spec vt;obtain⟨u,hu,h5⟩:=yieldsAt_of_stOp zS h2;refine hu.stOp zS (ih (listed.setIfInBounds j true) _ w (x7.put Up Dq) (ready_mono hr (Ne.symm zT)) ?_ ?_)
        · exact hy.of_same (execOp_put oi (fun cs b=>oS i oi cs b hi) a oj.dst u v7) (wanted_put oi a oj.dst u v7)
        · rw[Array.setIfInBounds_comm _ _ zT];exact h5.2
theorem IP {i:Nat} {fuel:Nat} {listed:Array Bool} {a:Act} {w:World} (hi:i ∈ Region.ready md ops listed) (hr:∀j ∈ Region.ready md ops listed,j=i)
    (hE:E i=true) (h:wpOp P ops Q i (Bm P md ops E Q fuel (listed.setIfInBounds i true)) a w):Bm P md ops E Q (fuel+1) listed a w:=
  ⟨fun h0=>(by rw[h0] at hi;cases hi),fun j hj=>(by
    have:=hr j hj;subst this;rw[if_pos hE];exact h)⟩
theorem v8 {listed:Array Bool} {a:Act} {w:World} (hr:Region.ready md ops listed=[]) (h:Q .normal a w):
    ∀fuel,Bm P md ops E Q fuel listed a w
  |0=>⟨hr,h⟩
  |_+1=>⟨fun _=>h,by rw[hr];simp⟩
theorem uR {id:Nat} {a:Act} {w:World} (hm:P.follows .mixedOrders=true)
    (h:Bm P .any ops E Q ops.size (Array.replicate ops.size false) a w.drew):(Code.region id ops true).wp P Q a w:=
  wp_region_any hm (q6 _ _ _ _ h)
end
def nth:Nat→List Oper→Option Oper
  |_,[]=>none
  |0,o::_=>some o
  |n+1,_::L=>nth n L
theorem IQ:∀(i:Nat) (L:List Oper),nth i L=L[i]?
  |_,[]=>by simp[nth]
  |0,o::_=>by simp[nth]
  |n+1,_::L=>by simp[nth,IQ n L]
theorem jK {i:Nat} {L:List Oper} {o:Oper} (h:nth i L=some o):L.toArray[i]? =some o:=by rw[IQ] at h;simpa using h
def nthN:Nat→List Nat→Nat
  |_,[]=>0
  |0,o::_=>o
  |n+1,_::L=>nthN n L
def maskOf (acc:List Nat):List Edge→Nat
  |[]=>0
  |e::es=>if Region.binds .any e && Nat.blt e.on acc.length then Nat.lor (Nat.lor (Nat.pow 2 e.on) (nthN e.on acc)) (maskOf acc es) else maskOf acc es
def befs:List Nat→List Oper→List Nat
  |acc,[]=>acc
  |acc,o::os=>befs (acc++[maskOf acc o.after.toList]) os
def backB:Nat→List Oper→Bool
  |_,[]=>true
  |n,o::os=>(o.after.toList.all fun e=> !Region.binds .any e||Nat.blt e.on n) && backB (n+1) os
def apartB (ops:Array Oper) (b:List Nat):Nat→List Oper→Nat→Oper→Bool
  |_,[],_,_=>true
  |j,o::os,i,oi=>(Nat.testBit (nthN j b) i||Nat.testBit (nthN i b) j||j==i||oi.apart ops o) && apartB ops b (j+1) os i oi
def iJ (ops:Array Oper) (b:List Nat) (L:List Oper):Nat→List Oper→Bool
  |_,[]=>true
  |i,o::os=>apartB ops b 0 L i o && iJ ops b L (i+1) os
inductive Kd where
  |y|r|e
  deriving DecidableEq
def oU (m d:Nat):Bool:=Nat.beq (Nat.land m d) m
def allFrom (p:Nat→Bool):Nat→Nat→Bool
  |_,0=>true
  |j,n+1=>p j && allFrom p (j+1) n
theorem jL {p:Nat→Bool}:∀(n j:Nat),allFrom p j n=true→∀k,j≤k→k<j+n→p k=true
  |0,_,_,k,h1,h2=>by omega
  |n+1,j,h,k,h1,h2=>by
    simp only[allFrom,Bool.and_eq_true] at h;by_cases e:k=j
    · subst e;exact h.1
    · exact jL n (j+1) h.2 k Om Om
def stepsB (n:Nat) (b:List Nat) (E:Nat):List (Nat × Kd)→Nat→Bool
  |[],d=>Nat.beq d (Nat.pow 2 n-1)
  |(i,k)::rest,d=>Nat.blt i n && !Nat.testBit d i && oU (nthN i b) d &&
      (match k with
       | .y=> !Nat.testBit E i
       | .r=> !Nat.testBit E i && allFrom (fun j=>Nat.testBit d j|| !Nat.testBit E j||Nat.testBit (nthN j b) i) 0 n
       | .e=>Nat.testBit E i && allFrom (fun j=>Nat.testBit d j||j==i||Nat.testBit (nthN j b) i) 0 n) && stepsB n b E rest (Nat.lor d (Nat.pow 2 i))
def Fw (L:List Oper) (E:Nat) (order:List (Nat × Kd)):Bool:=
  Region.noSelect L.toArray && Nat.ble order.length L.length && backB 0 L && iJ L.toArray (befs [] L) L 0 L && stepsB L.length (befs [] L) E order 0
theorem sa:∀(i:Nat) (L:List Nat),nthN i L=L.getD i 0
  |_,[]=>by simp[nthN]
  |0,o::_=>by simp[nthN]
  |n+1,_::L=>by simp[nthN,sa n L]
theorem q9 (acc:List Nat) (i:Nat):∀(es:List Edge),(maskOf acc es).testBit i=true→∃e ∈ es,Region.binds .any e=true∧e.on<acc.length∧(e.on=i∨(nthN e.on acc).testBit i=true)
  |[],h=>by simp[maskOf] at h
  |e::es,h=>by
    simp only[maskOf] at h;split at h
    · rename_i hc;rw[Bool.and_eq_true] at hc;have h':((2^e.on|||nthN e.on acc)|||maskOf acc es).testBit i=true:=h;rw[Nat.testBit_or,Nat.testBit_or,Bool.or_eq_true,Bool.or_eq_true] at h';rcases h' with (h1|h1)|h1
      · rw[Nat.testBit_two_pow] at h1;exact⟨e,List.mem_cons_self,hc.1,Nat.le_of_ble_eq_true hc.2,.inl (by simpa using h1)⟩
      · exact⟨e,List.mem_cons_self,hc.1,Nat.le_of_ble_eq_true hc.2,.inr h1⟩
      · obtain⟨e',he',h2⟩:=q9 acc i es h1;exact⟨e',List.mem_cons_of_mem _ he',h2⟩
    · obtain⟨e',he',h2⟩:=q9 acc i es h;exact⟨e',List.mem_cons_of_mem _ he',h2⟩
theorem ra (acc:List Nat):∀(es:List Edge) (e:Edge),e ∈ es→Region.binds .any e=true→e.on<acc.length→(maskOf acc es).testBit e.on=true
  |[],e,h,_,_=>by cases h
  |e0::es,e,h,hb,hl=>by
    simp only[maskOf];split
    · show((2^e0.on|||nthN e0.on acc)|||maskOf acc es).testBit e.on=true;rw[Nat.testBit_or,Nat.testBit_or];rcases List.mem_cons.1 h with h'|h'
      · subst h';simp[Nat.testBit_two_pow]
      · simp[ra acc es e h' hb hl]
    · rename_i hc;rcases List.mem_cons.1 h with h'|h'
      · subst h'
        exfalso;apply hc
        rw[hb,Bool.true_and];exact Nat.ble_eq_true_of_le hl
      · exact ra acc es e h' hb hl
theorem v9:∀(L:List Oper) (acc:List Nat),(befs acc L).length=acc.length+L.length
  |[],acc=>by simp[befs]
  |o::os,acc=>by simp only[befs,v9 os,List.length_append,List.length_cons,List.length_nil];omega
theorem wa:∀(L:List Oper) (acc:List Nat) (k:Nat),k<acc.length→(befs acc L)[k]? =acc[k]?
  |[],acc,k,h=>by simp[befs]
  |o::os,acc,k,h=>by
    simp only[befs];rw[wa os _ k Oz,List.getElem?_append_left h]
theorem zU:∀(L:List Oper) (acc:List Nat) (j:Nat) (o:Oper),L[j]? =some o→(befs acc L)[acc.length+j]? =some (maskOf ((befs acc L).take (acc.length+j)) o.after.toList)
  |[],acc,j,o,h=>by simp at h
  |o0::os,acc,0,o,h=>by
    simp at h;subst h;simp only[befs,Nat.add_zero];rw[wa os _ acc.length Oi];rw[List.getElem?_append_right (Nat.le_refl _)];simp only[Nat.sub_self,List.getElem?_cons_zero,Option.some.injEq];congr 1;apply List.ext_getElem?;intro k;rw[List.getElem?_take];split
    · rename_i hk;rw[wa os _ k Oz,List.getElem?_append_left hk]
    · rename_i hk;rw[List.getElem?_eq_none Om]
  |o0::os,acc,j+1,o,h=>by
    simp only[befs];have:=zU os (acc++[maskOf acc o0.after.toList]) j o (by simpa using h);have e:(acc++[maskOf acc o0.after.toList]).length+j=acc.length+(j+1):=by simp;omega
    rw[e] at this;exact this
theorem tZ {L:List Oper} {j i:Nat} {o:Oper} (hj:L[j]? =some o) (h:(nthN j (befs [] L)).testBit i=true):∃e ∈ o.after,Region.binds .any e=true∧e.on<j∧(e.on=i∨(nthN e.on (befs [] L)).testBit i=true):=by
  have h1:=zU L [] j o hj;simp only[List.length_nil,Nat.zero_add] at h1;rw[sa,List.getD_eq_getElem?_getD,h1,Option.getD_some] at h;have O7:j<L.length:=by
    rcases Nat.lt_or_ge j L.length with h'|h'
    · exact h'
    · simp[List.getElem?_eq_none h'] at hj
  obtain⟨e,he,hb,hl,Ur⟩:=q9 _ _ _ h;have GV:e.on<j:=by
    rw[List.length_take,v9] at hl;omega
  refine⟨e,by simpa using he,hb,GV,Ur.imp id fun h2=>?_⟩;rw[sa,List.getD_eq_getElem?_getD,List.getElem?_take,if_pos GV] at h2;rw[sa,List.getD_eq_getElem?_getD];exact h2
theorem wb {L:List Oper} {j:Nat} {o:Oper} (hj:L[j]? =some o) {e:Edge} (he:e ∈ o.after) (hb:Region.binds .any e=true) (hl:e.on<j):(nthN j (befs [] L)).testBit e.on=true:=by
  have h1:=zU L [] j o hj;simp only[List.length_nil,Nat.zero_add] at h1;rw[sa,List.getD_eq_getElem?_getD,h1,Option.getD_some];have O7:j<L.length:=by
    rcases Nat.lt_or_ge j L.length with h'|h'
    · exact h'
    · simp[List.getElem?_eq_none h'] at hj
  refine ra _ _ e (by simpa using he) hb ?_;rw[List.length_take,v9];simp;omega
theorem rb:∀(L:List Oper) (n:Nat),backB n L=true→∀(j:Nat) (o:Oper),L[j]? =some o→∀e ∈ o.after,Region.binds .any e=true→e.on<n+j
  |[],n,_,j,o,hj,_,_,_=>by simp at hj
  |o0::os,n,h,0,o,hj,e,he,hb=>by
    simp at hj;subst hj;simp only[backB,Bool.and_eq_true,List.all_eq_true] at h;have:=h.1 e (by simpa using he);rw[hb] at this;have h2:Nat.blt e.on n=true:=by simpa using this
    have h3:=Nat.le_of_ble_eq_true h2;omega
  |o0::os,n,h,j+1,o,hj,e,he,hb=>by
    simp only[backB,Bool.and_eq_true] at h;have:=rb os (n+1) h.2 j o (by simpa using hj) e he hb;omega
theorem oV {ops:Array Oper} {b:List Nat} {i:Nat} {oi:Oper}:∀(L:List Oper) (n:Nat),apartB ops b n L i oi=true→∀(j:Nat) (o:Oper),L[j]? =some o→(nthN (n+j) b).testBit i=true∨(nthN i b).testBit (n+j)=true∨n+j=i∨oi.apart ops o=true
  |[],n,_,j,o,hj=>by simp at hj
  |o0::os,n,h,0,o,hj=>by
    simp at hj;subst hj;simp only[apartB,Bool.and_eq_true,Bool.or_eq_true,beq_iff_eq] at h;rcases h.1 with ((h1|h1)|h1)|h1
    · exact .inl h1
    · exact .inr (.inl h1)
    · exact .inr (.inr (.inl h1))
    · exact .inr (.inr (.inr h1))
  |o0::os,n,h,j+1,o,hj=>by
    simp only[apartB,Bool.and_eq_true] at h;have:=oV os (n+1) h.2 j o (by simpa using hj);rw[show n+(j+1)=n+1+j by omega];exact this
theorem mL {ops:Array Oper} {b:List Nat} {L0:List Oper}:∀(L:List Oper) (n:Nat),iJ ops b L0 n L=true→∀(i:Nat) (o:Oper),L[i]? =some o→apartB ops b 0 L0 (n+i) o=true
  |[],n,_,j,o,hj=>by simp at hj
  |o0::os,n,h,0,o,hj=>by
    simp at hj;subst hj;simp only[iJ,Bool.and_eq_true] at h;exact h.1
  |o0::os,n,h,i+1,o,hj=>by
    simp only[iJ,Bool.and_eq_true] at h;have:=mL os (n+1) h.2 i o (by simpa using hj);rw[show n+(i+1)=n+1+i by omega];exact this
theorem ks {m d:Nat} (h:oU m d=true) {i:Nat} (hi:m.testBit i=true):d.testBit i=true:=by
  have h':m&&&d=m:=Nat.eq_of_beq_eq_true h;have:=congrArg (fun x=>x.testBit i) h';simp only[Nat.testBit_and,hi,Bool.true_and] at this;exact this
section
variable {P:Program} {Q:Exit→Act→World→Prop}
def Us (P:Program) (ops:Array Oper) (Q:Exit→Act→World→Prop):List (Nat × Kd)→Act→World→Prop
  |[],a,w=>Q .normal a w
  |(i,k)::rest,a,w=>match k with
    | .y=>∃o v,ops[i]? =some o∧Yields P ops o v a∧Us P ops Q rest (a.put o.dst v) w
    | .r=>∃o v,ops[i]? =some o∧YieldsAt P ops w o v a∧Us P ops Q rest (a.put o.dst v) w
    | .e=>wpOp P ops Q i (Us P ops Q rest) a w
structure O8 (L:List Oper) (d:Nat) (listed:Array Bool):Prop where
  size:listed.size=L.length
  at_:∀j,j<L.length→listed.getD j true=d.testBit j
  closed:∀j,j<L.length→d.testBit j=true→oU (nthN j (befs [] L)) d=true
theorem O8.put {L:List Oper} {d i:Nat} {listed:Array Bool} (h:O8 L d listed) (hi:i<L.length) (hs:oU (nthN i (befs [] L)) d=true):O8 L (Nat.lor d (Nat.pow 2 i)) (listed.setIfInBounds i true):=by
  have hb:∀j,(Nat.lor d (Nat.pow 2 i)).testBit j=(d.testBit j||decide (i=j)):=fun j=>by
    show(d|||2^i).testBit j=_;rw[Nat.testBit_or,Nat.testBit_two_pow]
  have mono:∀m,oU m d=true→oU m (Nat.lor d (Nat.pow 2 i))=true:=fun m hm=>by
    have e:m&&&d=m:=Nat.eq_of_beq_eq_true hm;show Nat.beq (m&&&(d|||2^i)) m=true;have e2:m&&&(d|||2^i)=m:=by
      apply Nat.eq_of_testBit_eq;intro k;have h1:=congrArg (fun x=>x.testBit k) e;simp only[Nat.testBit_and] at h1;rw[Nat.testBit_and,Nat.testBit_or];cases hm:m.testBit k<;>cases hd:d.testBit k<;>simp_all
    rw[e2];exact Nat.beq_refl m
  refine⟨by simp[h.size],fun j hj=>?_,fun j hj hd=>?_⟩
  · rw[hb];by_cases e:i=j
    · subst e;simp[h.size,hj]
    · rw[getD_set_ne true e,h.at_ j hj];simp[e]
  · rw[hb,Bool.or_eq_true] at hd;rcases hd with hd|hd
    · exact mono _ (h.closed j hj hd)
    · have:i=j:=by simpa using hd
      subst this;exact mono _ hs
theorem nM {L:List Oper} {E:Nat} (oS:Region.noSelect L.toArray=true) (oz:backB 0 L=true) (vt:iJ L.toArray (befs [] L) L 0 L=true)
    (hQ:∀c a w (d:Nat) v,Q (.panic c) (a.put (some d) v) w→Q (.panic c) a w):
    ∀(order:List (Nat × Kd)) (d fuel:Nat) (listed:Array Bool) (a:Act) (w:World),stepsB L.length (befs [] L) E order d=true→O8 L d listed→order.length≤fuel→Us P L.toArray Q order a w→
      Bm P .any L.toArray (fun j=>Nat.testBit E j) Q fuel listed a w
  |[],d,fuel,listed,a,w,hs,hl,_,h=>by
    refine v8 ?_ h fuel;have hd:d=2^L.length-1:=Nat.eq_of_beq_eq_true hs;apply List.eq_nil_iff_forall_not_mem.2;intro j hj;obtain⟨r',o,ho,_⟩:=mem_ready.1 hj;have eU:j<L.length:=by simpa using (Array.getElem?_eq_some_iff.1 ho).1
    rw[hl.at_ j eU,hd,Nat.testBit_two_pow_sub_one] at r';simp[eU] at r'
  |(i,k)::rest,d,fuel,listed,a,w,hs,hl,hf,h=>by
    obtain⟨fuel,rfl⟩:∃f,fuel=f+1:=⟨fuel-1,by simp at hf;omega⟩;simp only[stepsB,Bool.and_eq_true] at hs;obtain⟨⟨⟨⟨Bp,uQ⟩,oN⟩,hk⟩,sd⟩:=hs;have eU:i<L.length:=Nat.le_of_ble_eq_true Bp;have ua:d.testBit i=false:=by simpa using uQ
    have PH:L[i]? =some L[i]:=by simp[eU]
    have Ih:L.toArray[i]? =some L[i]:=by simpa using PH
    have GV:=hl.put eU oN;have dir:∀e ∈ L[i].after,Region.binds .any e=true→listed.getD e.on false=true:=fun e he hb=>by
      have h1:=rb L 0 oz i _ PH e he hb;rw[Nat.zero_add] at h1;have h2:=ks oN (wb PH he hb h1);have h3:=hl.at_ e.on Om;rw[h2] at h3;have:e.on<listed.size:=by rw[hl.size];omega
      simpa [this] using h3
    have mM:i ∈ Region.ready .any L.toArray listed:=mem_ready.2 ⟨by rw[hl.at_ i eU];exact ua,_,Ih,dir⟩;have SL:L.toArray.size=L.length:=Oi;have nb:NB .any L.toArray listed i L[i] (fun j=>j=i∨(nthN j (befs [] L)).testBit i=true):=by
      refine⟨fun j hj hb=>?_,fun j oj hj hb rT=>?_,fun j oj hj r' hb=>?_⟩
      · rw[SL] at hj;rw[hl.at_ j hj];rcases hb with rfl|hb
        · exact ua
        · cases hd:d.testBit j with
          |false=>rfl
          |true=>rw[ks (hl.closed j hj hd) hb] at ua;cases ua
      · have yM:L[j]? =some oj:=by simpa using hj
        rcases hb with rfl|hb
        · exact(rT rfl).elim
        · obtain⟨e,he,hbi,hle,Ur⟩:=tZ yM hb;have:j<L.length:=by
            rcases Nat.lt_or_ge j L.length with h'|h'
            · exact h'
            · simp[List.getElem?_eq_none h'] at yM
          exact⟨e,he,hbi,Ur,by rw[SL];omega⟩
      · have yM:L[j]? =some oj:=by simpa using hj
        have O7:j<L.length:=by
          rcases Nat.lt_or_ge j L.length with h'|h'
          · exact h'
          · simp[List.getElem?_eq_none h'] at yM
        have h1:=mL L 0 vt i _ PH;rw[Nat.zero_add] at h1;have h2:=oV L 0 h1 j oj yM;simp only[Nat.zero_add] at h2;rcases h2 with h2|h2|h2|h2
        · exact(hb (.inr h2)).elim
        · rw[hl.at_ j O7,ks oN h2] at r';cases r'
        · exact(hb (.inl h2)).elim
        · exact h2
    cases k with
    |y=>
      obtain⟨o,v,ho,hy,hw⟩:=h;have:o=L[i]:=Option.some.inj (ho.symm.trans Ih);subst this;have hE:Nat.testBit E i=false:=by simpa using hk
      refine Bo Ih (Region.noSelect_spec oS) hE ?_ fuel listed a w nb mM hy (nM oS oz vt hQ rest _ fuel _ _ w sd GV (by simp at hf;omega) hw);intro c a w hq;cases hd:L[i].dst with
      |none=>rw[hd] at hq;exact hq
      |some d'=>rw[hd] at hq;exact hQ c a w d' v hq
    |r=>
      obtain⟨o,v,ho,hy,hw⟩:=h;have:o=L[i]:=Option.some.inj (ho.symm.trans Ih);subst this;rw[Bool.and_eq_true] at hk;have hE:Nat.testBit E i=false:=by simpa using hk.1
      refine Bn Ih (Region.noSelect_spec oS) hE (.inl rfl) fuel listed a w nb ?_ mM hy (nM oS oz vt hQ rest _ fuel _ _ w sd GV (by simp at hf;omega) hw);intro j hj r' hEj;rw[SL] at hj;have h1:=jL _ _ hk.2 j Om Om;rw[hl.at_ j hj] at r';simp only[r',hEj,Bool.not_true,Bool.false_or] at h1;exact .inr h1
    |e=>
      rw[Bool.and_eq_true] at hk;refine IP mM ?_ hk.1 (wpOp_mono (fun a' w' h'=>nM oS oz vt hQ rest _ fuel _ a' w' sd GV (by simp at hf;omega) h') h);intro j hj;refine Classical.byContradiction fun rT=>nb.notReady hj rT ?_
      obtain⟨r',oj,zS,_⟩:=mem_ready.1 hj;have O7:j<L.length:=by simpa using (Array.getElem?_eq_some_iff.1 zS).1
      have h1:=jL _ _ hk.2 j Om Om;rw[hl.at_ j O7] at r';have akf:(j==i)=false:=by simpa using rT
      simp only[r',akf,Bool.false_or] at h1;exact .inr h1
theorem Dr {L:List Oper} {id:Nat} (E:Nat) (order:List (Nat × Kd)) (hm:P.follows .mixedOrders=true) (hB:Fw L E order=true)
    (hQ:∀c a w (d:Nat) v,Q (.panic c) (a.put (some d) v) w→Q (.panic c) a w) {a:Act} {w:World} (h:Us P L.toArray Q order a w.drew):(Code.region id L.toArray true).wp P Q a w:=by
  simp only[Fw,Bool.and_eq_true] at hB;obtain⟨⟨⟨⟨h1,h0⟩,h2⟩,h3⟩,h4⟩:=hB;have IS:order.length≤L.length:=Nat.le_of_ble_eq_true h0;refine uR (E:=fun j=>Nat.testBit E j) hm ?_;have hl:O8 L 0 (Array.replicate L.toArray.size false):=⟨Oi,fun j hj=>by simp[hj],fun j hj hd=>by simp at hd⟩;have:=nM (P:=P) h1 h2 h3 hQ order 0 L.toArray.size _ a w.drew h4 hl (by simpa using IS) h;exact this
end
abbrev bx:=List (Nat × Value)
def look (t:Nat):bx→Option Value
  |[]=>none
  |p::ρ=>bif Nat.beq p.1 t then some p.2 else look t ρ
def ev (ρ:bx):Operand→Option Value
  | .tmp t=>look t ρ
  | .const v=>some v
  | .global g=>some (.pointer (some ⟨g,0,none⟩))
  | .func f=>some (.func (.func f) #[] #[])
def sf (ρ:bx) (a:Act):Prop:=∀t v,look t ρ=some v→a.tmps[t]? =some v
theorem cq {ρ:bx} {a:Act} (h:sf ρ a) {x:Operand} {v:Value} (hx:ev ρ x=some v):a.eval x=v:=by
  cases x with
  |tmp t=>simp[Act.eval,h t v hx]
  |const u=>exact Option.some.inj hx
  |global g=>exact Option.some.inj hx
  |func f=>exact Option.some.inj hx
theorem sf.put {ρ:bx} {a:Act} (h:sf ρ a) {d:Nat} (hd:d<a.tmps.size) (v:Value):sf ((d,v)::ρ) (a.put (some d) v):=by
  intro t u ht;simp only[look,cond_eq_ite] at ht;simp only[Act.put];by_cases e:d=t
  · subst e;simp at ht;simp[hd,ht]
  · have hb:Nat.beq d t=false:=by
      cases hb:Nat.beq d t with
      |false=>rfl
      |true=>exact absurd (Nat.eq_of_beq_eq_true hb) e
    simp[hb] at ht;rw[Array.getElem?_setIfInBounds_ne e];exact h t u ht
def Sub (ρ' ρ:bx):Prop:=match ρ' with
  |[]=>True
  |p::q=>look p.1 ρ=some p.2∧Sub q ρ
theorem Sub.ok {ρ ρ':bx} (h:Sub ρ' ρ) {a:Act} (ha:sf ρ a):sf ρ' a:=by
  induction ρ' with
  |nil=>intro t v ht;simp[look] at ht
  |cons p q ih=>
    intro t v ht;simp only[look,cond_eq_ite] at ht;by_cases e:Nat.beq p.1 t=true
    · have e':p.1=t:=Nat.eq_of_beq_eq_true e;rw[if_pos e] at ht;rw[←e', ←Option.some.inj ht];exact ha _ _ h.1
    · rw[if_neg e] at ht;exact ih h.2 t v ht
structure Kx where
  n:Nat
  l0:List aV
  w0:World
def Own (K:Kx) (l:List aV):Prop:=∀s ∈ l,∀b j:Nat,s.has b j→(∃t ∈ K.l0,t.has b j)∨K.w0.heap.size≤b
structure At (K:Kx) (ρ:bx) (l r:List aV) (a:Act) (w:World):Prop where
  size:a.tmps.size=K.n
  defers:a.defers=[]
  fr:sf ρ a
  keeps:gh K.l0 K.w0 w
  st:St l r w
  own:Own K l
theorem St.drew {l r:List aV} {w:World} (h:St l r w):St l r w.drew:=⟨h.hl,h.hr,h.pw,h.lr⟩
theorem At.drew {K:Kx} {ρ:bx} {l r:List aV} {a:Act} {w:World} (h:At K ρ l r a w):At K ρ l r a w.drew:=
  ⟨h.size,h.defers,h.fr,⟨h.keeps.os,h.keeps.tape,h.keeps.output,h.keeps.size,h.keeps.cells,h.keeps.other⟩,h.st.drew,h.own⟩
theorem At.put {K:Kx} {ρ:bx} {l r:List aV} {a:Act} {w:World} (h:At K ρ l r a w) {d:Nat} (hd:Nat.blt d K.n=true) (v:Value):At K ((d,v)::ρ) l r (a.put (some d) v) w:=
  ⟨by simp[Act.put,h.size],h.defers,h.fr.put (by rw[h.size];exact Nat.le_of_ble_eq_true hd) v,h.keeps,h.st,h.own⟩
theorem At.sub {K:Kx} {ρ ρ':bx} {l r:List aV} {a:Act} {w:World} (h:At K ρ l r a w) (hs:Sub ρ' ρ):At K ρ' l r a w:=
  ⟨h.size,h.defers,hs.ok h.fr,h.keeps,h.st,h.own⟩
section
variable (P:Program) (K:Kx) (Q:Exit→Act→World→Prop)
def G (c:Code) (ρ:bx) (l r:List aV):Prop:=∀a w,At K ρ l r a w→c.wp P Q a w
def GQ (e:Exit) (ρ:bx) (l r:List aV):Prop:=∀a w,At K ρ l r a w→Q e a w
def GL (L rest:List Oper) (ρ:bx) (l r:List aV):Prop:=∀a w,At K ρ l r a w→wpList P L.toArray Q rest a w
def GP (L:List Oper) (order:List (Nat × Kd)) (ρ:bx) (l r:List aV):Prop:=∀a w,At K ρ l r a w→Us P L.toArray Q order a w
end
section
variable {P:Program} {K:Kx} {Q:Exit→Act→World→Prop} {ρ:bx} {l r:List aV}
theorem G.seq {x y:Code} (h:G P K (Exit.then (y.wp P Q) Q) x ρ l r):G P K Q (.seq x y) ρ l r:=fun a w ha=>wp_seq (h a w ha)
theorem G.block {id:Nat} {c:Code} (h:G P K (Exit.inBlock id Q) c ρ l r):G P K Q (.block id c) ρ l r:=fun a w ha=>wp_block (h a w ha)
theorem G.skip (h:GQ K Q .normal ρ l r):G P K Q .skip ρ l r:=fun a w ha=>wp_skip (h a w ha)
theorem G.ret (h:GQ K Q .ret ρ l r):G P K Q .ret ρ l r:=fun a w ha=>wp_ret (h a w ha)
theorem G.exit {id:Nat} (h:GQ K Q (.exit id) ρ l r):G P K Q (.exit id) ρ l r:=fun a w ha=>wp_exit (h a w ha)
theorem G.cond {c:Operand} {x y:Code} {t:Bool} (hc:ev ρ c=some (.bool t)) (ht:t=true→G P K Q x ρ l r) (hf:t=false→G P K Q y ρ l r):G P K Q (.cond c x y) ρ l r:=
  fun a w ha=>wp_cond_split (cq ha.fr hc) (fun h=>ht h a w ha) (fun h=>hf h a w ha)
theorem G.IT {c:Operand} {x y:Code} {p:Prop} [Decidable p] (hc:ev ρ c=some (.bool (decide p))) (ht:p→G P K Q x ρ l r) (hf:¬p→G P K Q y ρ l r):G P K Q (.cond c x y) ρ l r:=
  G.cond hc (fun h=>ht (of_decide_eq_true h)) (fun h=>hf (of_decide_eq_false h))
theorem G.kP {c:Operand} {x y:Code} (hc:ev ρ c=some (.bool true)) (h:G P K Q x ρ l r):G P K Q (.cond c x y) ρ l r:=G.cond hc (fun _=>h) (fun e=>by cases e)
theorem G.dr {c:Operand} {x y:Code} (hc:ev ρ c=some (.bool false)) (h:G P K Q y ρ l r):G P K Q (.cond c x y) ρ l r:=G.cond hc (fun e=>by cases e) (fun _=>h)
theorem G.fQ {c:Operand} {x y:Code} {p:Prop} [Decidable p] (hc:ev ρ c=some (.bool (decide p))) (hp:p) (h:G P K Q x ρ l r):G P K Q (.cond c x y) ρ l r:=G.IT hc (fun _=>h) (fun e=>(e hp).elim)
theorem G.cf {c:Operand} {x y:Code} {p:Prop} [Decidable p] (hc:ev ρ c=some (.bool (decide p))) (hp:¬p) (h:G P K Q y ρ l r):G P K Q (.cond c x y) ρ l r:=G.IT hc (fun e=>(hp e).elim) (fun _=>h)
theorem G.region {id:Nat} {L:List Oper} (h:GL P K Q L L ρ l r):G P K Q (.region id L.toArray false) ρ l r:=fun a w ha=>wp_region_lit (h a w ha)
theorem G.akg {id:Nat} {L:List Oper} (E:Nat) (order:List (Nat × Kd)) (hm:P.follows .mixedOrders=true) (hB:Fw L E order=true) (hQ:∀c a w (d:Nat) v,Q (.panic c) (a.put (some d) v) w→Q (.panic c) a w) (h:GP P K Q L order ρ l r):G P K Q (.region id L.toArray true) ρ l r:=
  fun a w ha=>Dr E order hm hB hQ (h a w.drew ha.drew)
theorem GQ.aa {y:Code} (h:G P K Q y ρ l r):GQ K (Exit.then (y.wp P Q) Q) .normal ρ l r:=h
theorem GQ.awR {X:Act→World→Prop} (h:GQ K Q .ret ρ l r):GQ K (Exit.then X Q) .ret ρ l r:=h
theorem GQ.ag {X:Act→World→Prop} {id:Nat} (h:GQ K Q (.exit id) ρ l r):GQ K (Exit.then X Q) (.exit id) ρ l r:=h
theorem GQ.ah {id:Nat} (h:GQ K Q .normal ρ l r):GQ K (Exit.inBlock id Q) .normal ρ l r:=h
theorem GQ.akh {id:Nat} (h:GQ K Q .ret ρ l r):GQ K (Exit.inBlock id Q) .ret ρ l r:=h
theorem GQ.aq {id:Nat} (h:GQ K Q .normal ρ l r):GQ K (Exit.inBlock id Q) (.exit id) ρ l r:=fun a w ha=>by simp only[Exit.inBlock,if_true];exact h a w ha
theorem GQ.dI {id id':Nat} (rT:Nat.beq id' id=false) (h:GQ K Q (.exit id') ρ l r):GQ K (Exit.inBlock id Q) (.exit id') ρ l r:=
  fun a w ha=>by simp only[Exit.inBlock,if_neg (Nat.ne_of_beq_eq_false rT)];exact h a w ha
def IU (K:Kx) (I:Nat→bx→List aV→Prop) (r:List aV) (n:Nat) (a:Act) (w:World):Prop:=∃m,m<n∧∃ρ l,I m ρ l∧At K ρ l r a w
theorem G.loop {c:Code} (I:Nat→bx→List aV→Prop) {n:Nat} {ρ0:bx} (h0:I n ρ0 l) (hs:Sub ρ0 ρ)
    (h:∀n ρ l,I n ρ l→G P K (Exit.then (IU K I r n) Q) c ρ l r):G P K Q (.loop c) ρ l r:=by
  intro a w ha;refine wp_loop (fun a w=>∃n,IU K I r n a w) (fun a w=>Classical.epsilon fun n=>(∃ρ l,I n ρ l∧At K ρ l r a w)∧∀m,(∃ρ l,I m ρ l∧At K ρ l r a w)→n≤m) ⟨n+1,n,Nat.lt_succ_self _,ρ0,l,h0,ha.sub hs⟩ ?_;intro a w ⟨_,m,_,ρ,l,hI,hA⟩;have least:∀(a:Act) (w:World) (m:Nat),(∃ρ l,I m ρ l∧At K ρ l r a w)→∃n,(∃ρ l,I n ρ l∧At K ρ l r a w)∧∀m,(∃ρ l,I m ρ l∧At K ρ l r a w)→n≤m:=by
    intro a w m;induction m using Nat.strongRecOn with
    |_ m ih=>
      intro hm;by_cases hx:∃k,k<m∧∃ρ l,I k ρ l∧At K ρ l r a w
      · obtain⟨k,hk,yl⟩:=hx;exact ih k hk yl
      · exact⟨m,hm,fun k hk=>Nat.le_of_not_lt fun eU=>hx ⟨k,eU,hk⟩⟩
  have e1:=Classical.epsilon_spec (least a w m ⟨ρ,l,hI,hA⟩);generalize hN:(Classical.epsilon fun n=>(∃ρ l,I n ρ l∧At K ρ l r a w)∧∀m,(∃ρ l,I m ρ l∧At K ρ l r a w)→n≤m)=N at*;obtain⟨⟨ρ1,l1,hI1,hA1⟩,_⟩:=e1;refine wp_mono (h N ρ1 l1 hI1 a w hA1) ?_;intro e a' w' hq;cases e with
  |normal=>
    obtain⟨m',hm',ρ',l',hI',hA'⟩:=hq;refine⟨⟨N,m',hm',ρ',l',hI',hA'⟩,?_⟩;have e2:=Classical.epsilon_spec (least a' w' m' ⟨ρ',l',hI',hA'⟩);have:=e2.2 m' ⟨ρ',l',hI',hA'⟩;show _<N;omega
  |_=>exact hq
theorem GQ.back {I:Nat→bx→List aV→Prop} {n m:Nat} {ρ':bx} (hm:m<n) (hI:I m ρ' l) (hs:Sub ρ' ρ):GQ K (Exit.then (IU K I r n) Q) .normal ρ l r:=
  fun a w ha=>⟨m,hm,ρ',l,hI,ha.sub hs⟩
theorem GQ.meet {M:bx→List aV→Prop} {ρ':bx} (hM:M ρ' l) (hs:Sub ρ' ρ):GQ K (Exit.then (fun a w=>∃ρ l,M ρ l∧At K ρ l r a w) Q) .normal ρ l r:=
  fun a w ha=>⟨ρ',l,hM,ha.sub hs⟩
def bJ (P:Program) (ρ:bx) (o:Oper) (v:Value):Prop:=∀a,sf ρ a→∀w,(execOp a.eval o).run P w=.ok (.value v) w
def rU (P:Program) (ρ:bx) (l r:List aV) (o:Oper) (v:Value):Prop:=∀a w,sf ρ a→St l r w→(execOp a.eval o).run P w=.ok (.value v) w
def nN (P:Program) (K:Kx) (ρ:bx) (l r:List aV) (o:Oper) (N:bx→List aV→Prop):Prop:=
  ∀a w,At K ρ l r a w→∀(nx:Act→World→Prop) (Q:Exit→Act→World→Prop),(∀a' w',(∃ρ' l',N ρ' l'∧At K ρ' l' r a' w')→nx a' w')→o.wp P a w nx Q
def want (L:List Oper) (ρ:bx) (o:Oper):Option Bool:=
  match o.guard with
  |none=>some true
  |some (j,b)=>match (nth j L).bind (·.dst) with
    |some t=>match look t ρ with
      |some (.bool b')=>some (match b',b with|true,true=>true|false,false=>true|_,_=>false)
      |_=>none
    |none=>none
theorem iz {L:List Oper} {ρ:bx} {o:Oper} {b:Bool} (h:want L ρ o=some b) {a:Act} (ha:sf ρ a):Region.wanted o (yielded L.toArray a.tmps)=b:=by
  unfold want at h;unfold Region.wanted;cases hg:o.guard with
  |none=>simp only[hg] at h ⊢;exact Option.some.inj h
  |some p=>
    obtain⟨j,b0⟩:=p;simp only[hg] at h ⊢;unfold yielded;cases hj:nth j L with
    |none=>simp[hj] at h
    |some oj=>
      rw[jK hj];simp only[hj,Option.bind_some] at h ⊢;cases hd:oj.dst with
      |none=>simp[hd] at h
      |some t=>
        simp only[hd,Option.bind_some] at h ⊢;cases hl:look t ρ with
        |none=>simp[hl] at h
        |some v=>
          rw[ha t v hl];cases v<;>simp only[hl] at h<;>try (cases h)
          rename_i b';cases b'<;>cases b0<;>simp
end
section
variable {P:Program} {K:Kx} {Q:Exit→Act→World→Prop} {ρ:bx} {l r:List aV} {L rest:List Oper} {o:Oper} {d:Nat} {v:Value}
theorem bJ.O' (h:bJ P ρ o v):rU P ρ l r o v:=fun a w ha _=>h a ha w
theorem GL.rd (h:rU P ρ l r o v) (hw:want L ρ o=some true) (hd:o.dst=some d) (hn:Nat.blt d K.n=true) (k:GL P K Q L rest ((d,v)::ρ) l r):GL P K Q L (o::rest) ρ l r:=by
  intro a w ha;unfold wpList;rw[if_pos (iz hw ha.fr)];left;unfold Oper.wp;rw[h a w ha.fr ha.st];simp only[Oper.upon,hd];exact k _ _ (ha.put hn v)
theorem GL.y (h:bJ P ρ o v) (hw:want L ρ o=some true) (hd:o.dst=some d) (hn:Nat.blt d K.n=true) (k:GL P K Q L rest ((d,v)::ρ) l r):GL P K Q L (o::rest) ρ l r:=
  GL.rd h.O' hw hd hn k
theorem GL.skip (hw:want L ρ o=some false) (hd:o.dst=some d) (hn:Nat.blt d K.n=true) (k:GL P K Q L rest ((d,undef)::ρ) l r):GL P K Q L (o::rest) ρ l r:=by
  intro a w ha;unfold wpList;rw[if_neg (by rw[iz hw ha.fr];simp),hd];exact k _ _ (ha.put hn undef)
theorem GL.bV {N:bx→List aV→Prop} (h:nN P K ρ l r o N) (hw:want L ρ o=some true) (k:∀ρ' l',N ρ' l'→GL P K Q L rest ρ' l' r):GL P K Q L (o::rest) ρ l r:=by
  intro a w ha;unfold wpList;rw[if_pos (iz hw ha.fr)];left;exact h a w ha _ _ fun a' w' ⟨ρ',l',hN,hA⟩=>k ρ' l' hN a' w' hA
theorem GL.nil (h:GQ K Q .normal ρ l r):GL P K Q L [] ρ l r:=fun a w ha=>h a w ha
theorem At.GW {a:Act} {w:World} {t:Nat} {b b':Bool} (h:At K ρ l r a w) (hl:look t ρ=some (.bool b)) (e:b=b'):At K ((t,.bool b')::ρ) l r a w:=by
  subst e;refine⟨h.size,h.defers,fun u x hu=>?_,h.keeps,h.st,h.own⟩;simp only[look,cond_eq_ite] at hu;by_cases e:Nat.beq t u=true
  · rw[if_pos e] at hu;rw[←Nat.eq_of_beq_eq_true e, ←Option.some.inj hu];exact h.fr _ _ hl
  · rw[if_neg e] at hu;exact h.fr _ _ hu
theorem GL.split {t:Nat} {p:Prop} [Decidable p] (hl:look t ρ=some (.bool (decide p))) (h1:p→GL P K Q L rest ((t,.bool true)::ρ) l r) (h2:¬p→GL P K Q L rest ((t,.bool false)::ρ) l r):GL P K Q L rest ρ l r:=by
  intro a w ha;by_cases hp:p
  · exact h1 hp a w (ha.GW hl (decide_eq_true hp))
  · exact h2 hp a w (ha.GW hl (decide_eq_false hp))
theorem GL.Ds {t:Nat} {b:Bool} (hl:look t ρ=some (.bool b)) (h1:b=true→GL P K Q L rest ((t,.bool true)::ρ) l r) (h2:b=false→GL P K Q L rest ((t,.bool false)::ρ) l r):GL P K Q L rest ρ l r:=by
  intro a w ha;cases b with
  |true=>exact h1 rfl a w (ha.GW hl rfl)
  |false=>exact h2 rfl a w (ha.GW hl rfl)
theorem GL.yN {t:Nat} {p:Prop} [Decidable p] (hl:look t ρ=some (.bool (decide p))) (hp:p) (h1:GL P K Q L rest ((t,.bool true)::ρ) l r):GL P K Q L rest ρ l r:=GL.split hl (fun _=>h1) (fun h=>(h hp).elim)
theorem GL.uS {t:Nat} {p:Prop} [Decidable p] (hl:look t ρ=some (.bool (decide p))) (hp:¬p) (h1:GL P K Q L rest ((t,.bool false)::ρ) l r):GL P K Q L rest ρ l r:=GL.split hl (fun h=>(hp h).elim) (fun _=>h1)
variable {i:Nat} {os:List (Nat × Kd)}
theorem GP.y (h:bJ P ρ o v) (hi:nth i L=some o) (hw:want L ρ o=some true) (hd:o.dst=some d) (hn:Nat.blt d K.n=true) (k:GP P K Q L os ((d,v)::ρ) l r):GP P K Q L ((i,.y)::os) ρ l r:=
  fun a w ha=>⟨o,v,jK hi,.inl ⟨iz hw ha.fr,fun w'=>h a ha.fr w'⟩,by rw[hd];exact k _ _ (ha.put hn v)⟩
theorem GP.skip (hi:nth i L=some o) (hw:want L ρ o=some false) (hd:o.dst=some d) (hn:Nat.blt d K.n=true) (k:GP P K Q L os ((d,undef)::ρ) l r):GP P K Q L ((i,.y)::os) ρ l r:=
  fun a w ha=>⟨o,undef,jK hi,.inr ⟨iz hw ha.fr,rfl⟩,by rw[hd];exact k _ _ (ha.put hn undef)⟩
theorem GP.IV (hi:nth i L=some o) (hw:want L ρ o=some false) (hd:o.dst=some d) (hn:Nat.blt d K.n=true) (k:GP P K Q L os ((d,undef)::ρ) l r):GP P K Q L ((i,.r)::os) ρ l r:=
  fun a w ha=>⟨o,undef,jK hi,.inr ⟨iz hw ha.fr,rfl⟩,by rw[hd];exact k _ _ (ha.put hn undef)⟩
theorem GP.rd (h:rU P ρ l r o v) (hi:nth i L=some o) (hw:want L ρ o=some true) (hd:o.dst=some d) (hn:Nat.blt d K.n=true) (k:GP P K Q L os ((d,v)::ρ) l r):GP P K Q L ((i,.r)::os) ρ l r:=
  fun a w ha=>⟨o,v,jK hi,.inl ⟨iz hw ha.fr,.inl (h a w ha.fr ha.st)⟩,by rw[hd];exact k _ _ (ha.put hn v)⟩
theorem GP.bV {N:bx→List aV→Prop} (h:nN P K ρ l r o N) (hi:nth i L=some o) (hw:want L ρ o=some true) (k:∀ρ' l',N ρ' l'→GP P K Q L os ρ' l' r):GP P K Q L ((i,.e)::os) ρ l r:=by
  intro a w ha;show wpOp P L.toArray Q i (Us P L.toArray Q os) a w;unfold wpOp;rw[jK hi];simp only[];rw[if_pos (iz hw ha.fr)];left;exact h a w ha _ _ fun a' w' ⟨ρ',l',hN,hA⟩=>k ρ' l' hN a' w' hA
theorem GP.nil (h:GQ K Q .normal ρ l r):GP P K Q L [] ρ l r:=fun a w ha=>h a w ha
theorem GP.split {t:Nat} {p:Prop} [Decidable p] (hl:look t ρ=some (.bool (decide p))) (h1:p→GP P K Q L os ((t,.bool true)::ρ) l r) (h2:¬p→GP P K Q L os ((t,.bool false)::ρ) l r):GP P K Q L os ρ l r:=by
  intro a w ha;by_cases hp:p
  · exact h1 hp a w (ha.GW hl (decide_eq_true hp))
  · exact h2 hp a w (ha.GW hl (decide_eq_false hp))
section
variable {x y z:Operand} {ty cS:TypeId} {k:IntKind} {a b:Int} {m n:Nat} {u:Value}
theorem Dt (ho:o.op=.move x) (hx:ev ρ x=some v):bJ P ρ o v:=fun ac ha w=>by simp[execOp,ho,cq ha hx]
theorem lS (ho:o.op=.assign x) (hx:ev ρ x=some v):bJ P ρ o v:=fun ac ha w=>by simp[execOp,ho,cq ha hx]
theorem PJ (ho:o.op=.pick x y z) (hx:ev ρ x=some (.bool true)) (hy:ev ρ y=some v):bJ P ρ o v:=fun ac ha w=>by simp[execOp,ho,cq ha hx,cq ha hy,asBool]
theorem PK (ho:o.op=.pick x y z) (hx:ev ρ x=some (.bool false)) (hz:ev ρ z=some v):bJ P ρ o v:=fun ac ha w=>by simp[execOp,ho,cq ha hx,cq ha hz,asBool]
theorem aki {p:Addr} (ho:o.op=.nilCheck x) (hx:ev ρ x=some (.pointer (some p))):bJ P ρ o (.pointer (some p)):=fun ac ha w=>by simp[execOp,ho,cq ha hx]
theorem acS {vs:Array Value} {i:Nat} (ho:o.op=.extract x i) (hx:ev ρ x=some (.tuple vs)) (hv:vs[i]? =some v):bJ P ρ o v:=fun ac ha w=>by
  simp[execOp,ho,cq ha hx,Instr.extract,hv]
theorem iU {bo:BinOp} (ho:o.op=.binOp bo ty x y cS) (hx:ev ρ x=some (.int k a)) (hy:ev ρ y=some (.int k b)) (h:∀w,(binOp bo ty (.int k a) (.int k b)).run P w=.ok u w):bJ P ρ o u:=fun ac ha w=>by
  have e:(eqGuard bo ty x y (.int k a) (.int k b))=pure ():=by unfold eqGuard;split<;>rfl
  simp[execOp,ho,cq ha hx,cq ha hy,e,h]
theorem oY (ho:o.op=.binOp .add ty x y cS) (hx:ev ρ x=some (.int k a)) (hy:ev ρ y=some (.int k b)):bJ P ρ o (.int k (k.wrap (a+b))):=iU ho hx hy fun w=>by simp[binOp,Op.intArith]
theorem m4 (ho:o.op=.binOp .sub ty x y cS) (hx:ev ρ x=some (.int k a)) (hy:ev ρ y=some (.int k b)):bJ P ρ o (.int k (k.wrap (a-b))):=iU ho hx hy fun w=>by simp[binOp,Op.intArith]
theorem wc (ho:o.op=.binOp .mul ty x y cS) (hx:ev ρ x=some (.int k a)) (hy:ev ρ y=some (.int k b)):bJ P ρ o (.int k (k.wrap (a*b))):=iU ho hx hy fun w=>by simp[binOp,Op.intArith]
theorem ub (ho:o.op=.binOp .lss ty x y cS) (hx:ev ρ x=some (.int k a)) (hy:ev ρ y=some (.int k b)):bJ P ρ o (.bool (decide (a<b))):=iU ho hx hy fun w=>by simp[binOp,Op.intCmp]
theorem PM (ho:o.op=.binOp .leq ty x y cS) (hx:ev ρ x=some (.int k a)) (hy:ev ρ y=some (.int k b)):bJ P ρ o (.bool (decide (a≤b))):=iU ho hx hy fun w=>by simp[binOp,Op.intCmp]
theorem IW (ho:o.op=.binOp .gtr ty x y cS) (hx:ev ρ x=some (.int k a)) (hy:ev ρ y=some (.int k b)):bJ P ρ o (.bool (decide (b<a))):=iU ho hx hy fun w=>by simp[binOp,Op.intCmp]
theorem Bq (ho:o.op=.binOp .geq ty x y cS) (hx:ev ρ x=some (.int k a)) (hy:ev ρ y=some (.int k b)):bJ P ρ o (.bool (decide (b≤a))):=iU ho hx hy fun w=>by simp[binOp,Op.intCmp]
theorem re (ho:o.op=.binOp .eql ty x y cS) (hx:ev ρ x=some (.int k a)) (hy:ev ρ y=some (.int k b)):bJ P ρ o (.bool (decide (a=b))):=iU ho hx hy fun w=>by simp[binOp,Op.intCmp];rfl
theorem akj (ho:o.op=.binOp .neq ty x y cS) (hx:ev ρ x=some (.int k a)) (hy:ev ρ y=some (.int k b)):bJ P ρ o (.bool (decide (a≠b))):=iU ho hx hy fun w=>by
  simp[binOp,Op.intCmp,bne];by_cases h:a=b<;>simp[h]
end
end
section
variable {P:Program} {ρ:bx} {o:Oper} {v:Value} {x y:Operand} {ty cS:TypeId} {k k':IntKind} {a b:Int} {m n:Nat}
theorem bJ.cast {u:Value} (h:bJ P ρ o u) (e:u=v):bJ P ρ o v:=e▸h
theorem Br {bo:BinOp} {u:Value} (ho:o.op=.binOp bo ty x y cS) (hx:ev ρ x=some (.int k a)) (hy:ev ρ y=some (.int k b)) (h:∀w,(Op.intBits bo k a b).run P w=.ok u w) (hb:bo=.and∨bo=.or∨bo=.xor∨bo=.andNot):bJ P ρ o u:=
  iU ho hx hy fun w=>by rcases hb with rfl|rfl|rfl|rfl<;>simpa [binOp] using h w
theorem uc (ho:o.op=.binOp .and ty x y cS) (hx:ev ρ x=some (.int k a)) (hy:ev ρ y=some (.int k b)):bJ P ρ o (.int k (k.wrap (BitVec.ofInt k.bits a&&&BitVec.ofInt k.bits b).toNat)):=Br ho hx hy (fun w=>by simp[Op.intBits]) Oi
theorem Fx (ho:o.op=.binOp .or ty x y cS) (hx:ev ρ x=some (.int k a)) (hy:ev ρ y=some (.int k b)):bJ P ρ o (.int k (k.wrap (BitVec.ofInt k.bits a|||BitVec.ofInt k.bits b).toNat)):=Br ho hx hy (fun w=>by simp[Op.intBits]) Oi
theorem lT (ho:o.op=.binOp .shl ty x y cS) (hx:ev ρ x=some (.int k a)) (hy:ev ρ y=some (.int k' (n:Nat))):bJ P ρ o (.int k (k.wrap (a*2^(min n k.bits)))):=fun ac ha w=>by
  have e:(eqGuard .shl ty x y (.int k a) (.int k' (n:Nat)))=pure ():=by unfold eqGuard;split<;>rfl
  simp[execOp,ho,cq ha hx,cq ha hy,e,binOp,Op.shift];intro h;omega
theorem rf (ho:o.op=.binOp .shr ty x y cS) (hx:ev ρ x=some (.int k a)) (hy:ev ρ y=some (.int k' (n:Nat))):bJ P ρ o (.int k (a.fdiv (2^(min n k.bits)))):=fun ac ha w=>by
  have e:(eqGuard .shr ty x y (.int k a) (.int k' (n:Nat)))=pure ():=by unfold eqGuard;split<;>rfl
  simp[execOp,ho,cq ha hx,cq ha hy,e,binOp,Op.shift];intro h;omega
theorem zV (ho:o.op=.binOp .quo ty x y cS) (hx:ev ρ x=some (.int k a)) (hy:ev ρ y=some (.int k b)) (hb:b≠0):bJ P ρ o (.int k (k.wrap (a.tdiv b))):=iU ho hx hy fun w=>by simp[binOp,Op.intDiv,hb]
theorem IX (ho:o.op=.binOp .rem ty x y cS) (hx:ev ρ x=some (.int k a)) (hy:ev ρ y=some (.int k b)) (hb:b≠0):bJ P ρ o (.int k (a.tmod b)):=iU ho hx hy fun w=>by simp[binOp,Op.intDiv,hb]
theorem mN {b:Bool} (ho:o.op=.unOp .not ty x) (hx:ev ρ x=some (.bool b)):bJ P ρ o (.bool (!b)):=fun ac ha w=>by
  simp[execOp,ho,cq ha hx,Op.unary]
theorem acT (ho:o.op=.unOp .neg ty x) (hx:ev ρ x=some (.int k a)):bJ P ρ o (.int k (k.wrap (-a))):=fun ac ha w=>by
  simp[execOp,ho,cq ha hx,Op.unary,Op.intArith]
theorem jM {s t:TypeId} {D:TypeDesc} (ho:o.op=.convert s t x) (hs:P.underlying s=some D) (ht:P.underlying t=some (.int k')) (hx:ev ρ x=some (.int k a)):bJ P ρ o (.int k' (k'.wrap a)):=fun ac ha w=>by
  cases D<;>simp[execOp,ho,cq ha hx,convert,underlying,hs,ht,Conv.intToInt]
theorem nO (k:IntKind) (m n:Nat) (h:m<2^k.bits):((m:Nat):Int).fdiv (2^(min n k.bits))=((m/2^n:Nat):Int):=by
  have e:((2:Int)^(min n k.bits))=((2^(min n k.bits):Nat):Int):=Oi;rw[e,Int.fdiv_eq_ediv_of_nonneg _ (Int.natCast_nonneg _), ←Int.natCast_ediv];congr 1;rcases Nat.le_total n k.bits with h1|h1
  · rw[Nat.min_eq_left h1]
  · rw[Nat.min_eq_right h1,Nat.div_eq_of_lt h,Nat.div_eq_of_lt (Nat.lt_of_lt_of_le h (Nat.pow_le_pow_right Om h1))]
theorem gJ (b m:Nat) (h:m<2^b):(BitVec.ofInt b (m:Int)).toNat=m:=by
  rw[BitVec.ofInt_natCast,BitVec.toNat_ofNat,Nat.mod_eq_of_lt h]
end
section
variable {P:Program} {ρ:bx} {o:Oper} {x y:Operand} {ty cS:TypeId} {k':IntKind} {a b:Int} {m n:Nat}
theorem PN (ho:o.op=.binOp .sub ty x y cS) (hx:ev ρ x=some (.int .i8 (m:Nat))) (hy:ev ρ y=some (.int .i8 (n:Nat))) (h:n≤m∧m≤127):bJ P ρ o (.int .i8 ((m-n:Nat):Int)):=(m4 ho hx hy).cast (by
  have e:((m:Nat):Int)-((n:Nat):Int)=((m-n:Nat):Int):=Om;rw[e,IntWalk.i8_in _ ⟨Om,Om⟩])
theorem Ut {s t:TypeId} {D:TypeDesc} {k:IntKind} (ho:o.op=.convert s t x) (hs:P.underlying s=some D) (ht:P.underlying t=some (.int .i8)) (hx:ev ρ x=some (.int k (m:Nat))) (h:m≤127):bJ P ρ o (.int .i8 ((m:Nat):Int)):=(jM ho hs ht hx).cast (by rw[IntWalk.i8_in _ ⟨Om,Om⟩])
theorem jN (ho:o.op=.binOp .add ty x y cS) (hx:ev ρ x=some (.int .i16 a)) (hy:ev ρ y=some (.int .i16 b)) (h: -32768≤a+b∧a+b≤32767):bJ P ρ o (.int .i16 (a+b)):=(oY ho hx hy).cast (by rw[IntWalk.i16_in _ h])
theorem gS (ho:o.op=.binOp .sub ty x y cS) (hx:ev ρ x=some (.int .i16 a)) (hy:ev ρ y=some (.int .i16 b)) (h: -32768≤a-b∧a-b≤32767):bJ P ρ o (.int .i16 (a-b)):=(m4 ho hx hy).cast (by rw[IntWalk.i16_in _ h])
theorem IY (ho:o.op=.binOp .add ty x y cS) (hx:ev ρ x=some (.int .i16 (m:Nat))) (hy:ev ρ y=some (.int .i16 (n:Nat))) (h:m+n≤32767):bJ P ρ o (.int .i16 ((m+n:Nat):Int)):=(oY ho hx hy).cast (by
  have e:((m:Nat):Int)+((n:Nat):Int)=((m+n:Nat):Int):=Oi;rw[e,IntWalk.i16_in _ ⟨Om,Om⟩])
theorem IZ (ho:o.op=.binOp .mul ty x y cS) (hx:ev ρ x=some (.int .i16 (m:Nat))) (hy:ev ρ y=some (.int .i16 (n:Nat))) (h:m*n≤32767):bJ P ρ o (.int .i16 ((m*n:Nat):Int)):=(wc ho hx hy).cast (by
  have e:((m:Nat):Int)*((n:Nat):Int)=((m*n:Nat):Int):=Oi;rw[e,IntWalk.i16_in _ ⟨Om,Om⟩])
theorem I0 (ho:o.op=.binOp .sub ty x y cS) (hx:ev ρ x=some (.int .i16 (m:Nat))) (hy:ev ρ y=some (.int .i16 (n:Nat))) (h:n≤m∧m≤32767):bJ P ρ o (.int .i16 ((m-n:Nat):Int)):=(m4 ho hx hy).cast (by
  have e:((m:Nat):Int)-((n:Nat):Int)=((m-n:Nat):Int):=Om;rw[e,IntWalk.i16_in _ ⟨Om,Om⟩])
theorem I1 (ho:o.op=.binOp .shr ty x y cS) (hx:ev ρ x=some (.int .i16 (m:Nat))) (hy:ev ρ y=some (.int k' (n:Nat))) (h:m<65536):bJ P ρ o (.int .i16 ((m/2^n:Nat):Int)):=(rf ho hx hy).cast (by rw[nO _ _ _ (by simpa [IntKind.bits] using h)])
theorem I2 (ho:o.op=.binOp .shl ty x y cS) (hx:ev ρ x=some (.int .i16 (m:Nat))) (hy:ev ρ y=some (.int k' (n:Nat))) (hn:n≤16) (h:m*2^n≤32767):bJ P ρ o (.int .i16 ((m*2^n:Nat):Int)):=(lT ho hx hy).cast (by
  have e:((m:Nat):Int)*2^(min n (IntKind.bits .i16))=((m*2^n:Nat):Int):=by
    rw[Nat.min_eq_left (by simpa [IntKind.bits] using hn)];simp
  rw[e,IntWalk.i16_in _ ⟨Om,Om⟩])
theorem PO {s t:TypeId} {D:TypeDesc} {k:IntKind} (ho:o.op=.convert s t x) (hs:P.underlying s=some D) (ht:P.underlying t=some (.int .i16)) (hx:ev ρ x=some (.int k (m:Nat))) (h:m≤32767):bJ P ρ o (.int .i16 ((m:Nat):Int)):=(jM ho hs ht hx).cast (by rw[IntWalk.i16_in _ ⟨Om,Om⟩])
theorem Fy {s t:TypeId} {D:TypeDesc} {k:IntKind} (ho:o.op=.convert s t x) (hs:P.underlying s=some D) (ht:P.underlying t=some (.int .i16)) (hx:ev ρ x=some (.int k a)) (h: -32768≤a∧a≤32767):bJ P ρ o (.int .i16 a):=(jM ho hs ht hx).cast (by rw[IntWalk.i16_in _ h])
theorem oZ (ho:o.op=.binOp .add ty x y cS) (hx:ev ρ x=some (.int .i32 a)) (hy:ev ρ y=some (.int .i32 b)) (h: -2147483648≤a+b∧a+b≤2147483647):bJ P ρ o (.int .i32 (a+b)):=(oY ho hx hy).cast (by rw[IntWalk.i32_in _ h])
theorem we (ho:o.op=.binOp .sub ty x y cS) (hx:ev ρ x=some (.int .i32 a)) (hy:ev ρ y=some (.int .i32 b)) (h: -2147483648≤a-b∧a-b≤2147483647):bJ P ρ o (.int .i32 (a-b)):=(m4 ho hx hy).cast (by rw[IntWalk.i32_in _ h])
theorem I3 (ho:o.op=.binOp .add ty x y cS) (hx:ev ρ x=some (.int .i32 (m:Nat))) (hy:ev ρ y=some (.int .i32 (n:Nat))) (h:m+n≤2147483647):bJ P ρ o (.int .i32 ((m+n:Nat):Int)):=(oY ho hx hy).cast (by
  have e:((m:Nat):Int)+((n:Nat):Int)=((m+n:Nat):Int):=Oi;rw[e,IntWalk.i32_in _ ⟨Om,Om⟩])
theorem I4 (ho:o.op=.binOp .mul ty x y cS) (hx:ev ρ x=some (.int .i32 (m:Nat))) (hy:ev ρ y=some (.int .i32 (n:Nat))) (h:m*n≤2147483647):bJ P ρ o (.int .i32 ((m*n:Nat):Int)):=(wc ho hx hy).cast (by
  have e:((m:Nat):Int)*((n:Nat):Int)=((m*n:Nat):Int):=Oi;rw[e,IntWalk.i32_in _ ⟨Om,Om⟩])
theorem I5 (ho:o.op=.binOp .sub ty x y cS) (hx:ev ρ x=some (.int .i32 (m:Nat))) (hy:ev ρ y=some (.int .i32 (n:Nat))) (h:n≤m∧m≤2147483647):bJ P ρ o (.int .i32 ((m-n:Nat):Int)):=(m4 ho hx hy).cast (by
  have e:((m:Nat):Int)-((n:Nat):Int)=((m-n:Nat):Int):=Om;rw[e,IntWalk.i32_in _ ⟨Om,Om⟩])
theorem I6 (ho:o.op=.binOp .shr ty x y cS) (hx:ev ρ x=some (.int .i32 (m:Nat))) (hy:ev ρ y=some (.int k' (n:Nat))) (h:m<4294967296):bJ P ρ o (.int .i32 ((m/2^n:Nat):Int)):=(rf ho hx hy).cast (by rw[nO _ _ _ (by simpa [IntKind.bits] using h)])
theorem I7 (ho:o.op=.binOp .shl ty x y cS) (hx:ev ρ x=some (.int .i32 (m:Nat))) (hy:ev ρ y=some (.int k' (n:Nat))) (hn:n≤32) (h:m*2^n≤2147483647):bJ P ρ o (.int .i32 ((m*2^n:Nat):Int)):=(lT ho hx hy).cast (by
  have e:((m:Nat):Int)*2^(min n (IntKind.bits .i32))=((m*2^n:Nat):Int):=by
    rw[Nat.min_eq_left (by simpa [IntKind.bits] using hn)];simp
  rw[e,IntWalk.i32_in _ ⟨Om,Om⟩])
theorem PQ {s t:TypeId} {D:TypeDesc} {k:IntKind} (ho:o.op=.convert s t x) (hs:P.underlying s=some D) (ht:P.underlying t=some (.int .i32)) (hx:ev ρ x=some (.int k (m:Nat))) (h:m≤2147483647):bJ P ρ o (.int .i32 ((m:Nat):Int)):=(jM ho hs ht hx).cast (by rw[IntWalk.i32_in _ ⟨Om,Om⟩])
theorem vG {s t:TypeId} {D:TypeDesc} {k:IntKind} (ho:o.op=.convert s t x) (hs:P.underlying s=some D) (ht:P.underlying t=some (.int .i32)) (hx:ev ρ x=some (.int k a)) (h: -2147483648≤a∧a≤2147483647):bJ P ρ o (.int .i32 a):=(jM ho hs ht hx).cast (by rw[IntWalk.i32_in _ h])
theorem o8 (ho:o.op=.binOp .add ty x y cS) (hx:ev ρ x=some (.int .i64 a)) (hy:ev ρ y=some (.int .i64 b)) (h: -9223372036854775808≤a+b∧a+b≤9223372036854775807):bJ P ρ o (.int .i64 (a+b)):=(oY ho hx hy).cast (by rw[IntWalk.i64_in _ h])
theorem iK (ho:o.op=.binOp .sub ty x y cS) (hx:ev ρ x=some (.int .i64 a)) (hy:ev ρ y=some (.int .i64 b)) (h: -9223372036854775808≤a-b∧a-b≤9223372036854775807):bJ P ρ o (.int .i64 (a-b)):=(m4 ho hx hy).cast (by rw[IntWalk.i64_in _ h])
theorem I8 (ho:o.op=.binOp .add ty x y cS) (hx:ev ρ x=some (.int .i64 (m:Nat))) (hy:ev ρ y=some (.int .i64 (n:Nat))) (h:m+n≤9223372036854775807):bJ P ρ o (.int .i64 ((m+n:Nat):Int)):=(oY ho hx hy).cast (by
  have e:((m:Nat):Int)+((n:Nat):Int)=((m+n:Nat):Int):=Oi;rw[e,IntWalk.i64_in _ ⟨Om,Om⟩])
theorem I9 (ho:o.op=.binOp .mul ty x y cS) (hx:ev ρ x=some (.int .i64 (m:Nat))) (hy:ev ρ y=some (.int .i64 (n:Nat))) (h:m*n≤9223372036854775807):bJ P ρ o (.int .i64 ((m*n:Nat):Int)):=(wc ho hx hy).cast (by
  have e:((m:Nat):Int)*((n:Nat):Int)=((m*n:Nat):Int):=Oi;rw[e,IntWalk.i64_in _ ⟨Om,Om⟩])
theorem I' (ho:o.op=.binOp .sub ty x y cS) (hx:ev ρ x=some (.int .i64 (m:Nat))) (hy:ev ρ y=some (.int .i64 (n:Nat))) (h:n≤m∧m≤9223372036854775807):bJ P ρ o (.int .i64 ((m-n:Nat):Int)):=(m4 ho hx hy).cast (by
  have e:((m:Nat):Int)-((n:Nat):Int)=((m-n:Nat):Int):=Om;rw[e,IntWalk.i64_in _ ⟨Om,Om⟩])
theorem Ja (ho:o.op=.binOp .and ty x y cS) (hx:ev ρ x=some (.int .i64 (m:Nat))) (hy:ev ρ y=some (.int .i64 (n:Nat))) (h:m<9223372036854775808∨n<9223372036854775808) (hm:m<18446744073709551616) (hn:n<18446744073709551616):bJ P ρ o (.int .i64 ((m&&&n:Nat):Int)):=(uc ho hx hy).cast (by
  rw[BitVec.toNat_and,show IntKind.bits .i64=64 from rfl,gJ _ _ hm,gJ _ _ hn,IntWalk.i64_in _ ⟨Om,?_⟩];have h1:=@Nat.and_le_left m n;have h2:=@Nat.and_le_right m n;omega)
theorem Jb (ho:o.op=.binOp .shr ty x y cS) (hx:ev ρ x=some (.int .i64 (m:Nat))) (hy:ev ρ y=some (.int k' (n:Nat))) (h:m<18446744073709551616):bJ P ρ o (.int .i64 ((m/2^n:Nat):Int)):=(rf ho hx hy).cast (by rw[nO _ _ _ (by simpa [IntKind.bits] using h)])
theorem Jc (ho:o.op=.binOp .shl ty x y cS) (hx:ev ρ x=some (.int .i64 (m:Nat))) (hy:ev ρ y=some (.int k' (n:Nat))) (hn:n≤64) (h:m*2^n≤9223372036854775807):bJ P ρ o (.int .i64 ((m*2^n:Nat):Int)):=(lT ho hx hy).cast (by
  have e:((m:Nat):Int)*2^(min n (IntKind.bits .i64))=((m*2^n:Nat):Int):=by
    rw[Nat.min_eq_left (by simpa [IntKind.bits] using hn)];simp
  rw[e,IntWalk.i64_in _ ⟨Om,Om⟩])
theorem Jd (ho:o.op=.binOp .quo ty x y cS) (hx:ev ρ x=some (.int .i64 (m:Nat))) (hy:ev ρ y=some (.int .i64 (n:Nat))) (h0:0<n) (hm:m≤9223372036854775807):bJ P ρ o (.int .i64 ((m/n:Nat):Int)):=(zV ho hx hy Om).cast (by
  rw[Int.tdiv_eq_ediv_of_nonneg Om, ←Int.natCast_ediv];have h1:=Nat.div_le_self m n;generalize m/n=q at*;rw[IntWalk.i64_in _ ⟨Om,Om⟩])
theorem Je (ho:o.op=.binOp .rem ty x y cS) (hx:ev ρ x=some (.int .i64 (m:Nat))) (hy:ev ρ y=some (.int .i64 (n:Nat))) (h0:0<n):bJ P ρ o (.int .i64 ((m%n:Nat):Int)):=(IX ho hx hy Om).cast (by rw[Int.tmod_eq_emod_of_nonneg Om, ←Int.natCast_emod])
theorem PR {s t:TypeId} {D:TypeDesc} {k:IntKind} (ho:o.op=.convert s t x) (hs:P.underlying s=some D) (ht:P.underlying t=some (.int .i64)) (hx:ev ρ x=some (.int k (m:Nat))) (h:m≤9223372036854775807):bJ P ρ o (.int .i64 ((m:Nat):Int)):=(jM ho hs ht hx).cast (by rw[IntWalk.i64_in _ ⟨Om,Om⟩])
theorem PS {s t:TypeId} {D:TypeDesc} {k:IntKind} (ho:o.op=.convert s t x) (hs:P.underlying s=some D) (ht:P.underlying t=some (.int .i64)) (hx:ev ρ x=some (.int k a)) (h: -9223372036854775808≤a∧a≤9223372036854775807):bJ P ρ o (.int .i64 a):=(jM ho hs ht hx).cast (by rw[IntWalk.i64_in _ h])
theorem PT (ho:o.op=.binOp .add ty x y cS) (hx:ev ρ x=some (.int .u8 (m:Nat))) (hy:ev ρ y=some (.int .u8 (n:Nat))) (h:m+n≤255):bJ P ρ o (.int .u8 ((m+n:Nat):Int)):=(oY ho hx hy).cast (by
  have e:((m:Nat):Int)+((n:Nat):Int)=((m+n:Nat):Int):=Oi;rw[e,IntWalk.u8_in _ ⟨Om,Om⟩])
theorem PU (ho:o.op=.binOp .mul ty x y cS) (hx:ev ρ x=some (.int .u8 (m:Nat))) (hy:ev ρ y=some (.int .u8 (n:Nat))) (h:m*n≤255):bJ P ρ o (.int .u8 ((m*n:Nat):Int)):=(wc ho hx hy).cast (by
  have e:((m:Nat):Int)*((n:Nat):Int)=((m*n:Nat):Int):=Oi;rw[e,IntWalk.u8_in _ ⟨Om,Om⟩])
theorem PV (ho:o.op=.binOp .sub ty x y cS) (hx:ev ρ x=some (.int .u8 (m:Nat))) (hy:ev ρ y=some (.int .u8 (n:Nat))) (h:n≤m∧m≤255):bJ P ρ o (.int .u8 ((m-n:Nat):Int)):=(m4 ho hx hy).cast (by
  have e:((m:Nat):Int)-((n:Nat):Int)=((m-n:Nat):Int):=Om;rw[e,IntWalk.u8_in _ ⟨Om,Om⟩])
theorem PW (ho:o.op=.binOp .and ty x y cS) (hx:ev ρ x=some (.int .u8 (m:Nat))) (hy:ev ρ y=some (.int .u8 (n:Nat))) (h:m<256∨n<256) (hm:m<256) (hn:n<256):bJ P ρ o (.int .u8 ((m&&&n:Nat):Int)):=(uc ho hx hy).cast (by
  rw[BitVec.toNat_and,show IntKind.bits .u8=8 from rfl,gJ _ _ hm,gJ _ _ hn,IntWalk.u8_in _ ⟨Om,?_⟩];have h1:=@Nat.and_le_left m n;have h2:=@Nat.and_le_right m n;omega)
theorem zW (ho:o.op=.binOp .or ty x y cS) (hx:ev ρ x=some (.int .u8 (m:Nat))) (hy:ev ρ y=some (.int .u8 (n:Nat))) (hm:m<256) (hn:n<256):bJ P ρ o (.int .u8 ((m|||n:Nat):Int)):=(Fx ho hx hy).cast (by
  rw[BitVec.toNat_or,show IntKind.bits .u8=8 from rfl,gJ _ _ Om,gJ _ _ Om,IntWalk.u8_in _ ⟨Om,?_⟩];have h1:=Nat.or_lt_two_pow (n:=8) (x:=m) (y:=n) Om Om;omega)
theorem PX (ho:o.op=.binOp .shr ty x y cS) (hx:ev ρ x=some (.int .u8 (m:Nat))) (hy:ev ρ y=some (.int k' (n:Nat))) (h:m<256):bJ P ρ o (.int .u8 ((m/2^n:Nat):Int)):=(rf ho hx hy).cast (by rw[nO _ _ _ (by simpa [IntKind.bits] using h)])
theorem PY (ho:o.op=.binOp .shl ty x y cS) (hx:ev ρ x=some (.int .u8 (m:Nat))) (hy:ev ρ y=some (.int k' (n:Nat))) (hn:n≤8) (h:m*2^n≤255):bJ P ρ o (.int .u8 ((m*2^n:Nat):Int)):=(lT ho hx hy).cast (by
  have e:((m:Nat):Int)*2^(min n (IntKind.bits .u8))=((m*2^n:Nat):Int):=by
    rw[Nat.min_eq_left (by simpa [IntKind.bits] using hn)];simp
  rw[e,IntWalk.u8_in _ ⟨Om,Om⟩])
theorem PZ (ho:o.op=.binOp .quo ty x y cS) (hx:ev ρ x=some (.int .u8 (m:Nat))) (hy:ev ρ y=some (.int .u8 (n:Nat))) (h0:0<n) (hm:m≤255):bJ P ρ o (.int .u8 ((m/n:Nat):Int)):=(zV ho hx hy Om).cast (by
  rw[Int.tdiv_eq_ediv_of_nonneg Om, ←Int.natCast_ediv];have h1:=Nat.div_le_self m n;generalize m/n=q at*;rw[IntWalk.u8_in _ ⟨Om,Om⟩])
theorem Uu {s t:TypeId} {D:TypeDesc} {k:IntKind} (ho:o.op=.convert s t x) (hs:P.underlying s=some D) (ht:P.underlying t=some (.int .u8)) (hx:ev ρ x=some (.int k (m:Nat))) (h:m≤255):bJ P ρ o (.int .u8 ((m:Nat):Int)):=(jM ho hs ht hx).cast (by rw[IntWalk.u8_in _ ⟨Om,Om⟩])
theorem si (a:Int):IntKind.u8.wrap a=a%256:=by simp[IntKind.wrap,IntKind.bits,IntKind.signed]
theorem P0 (ho:o.op=.binOp .add ty x y cS) (hx:ev ρ x=some (.int .u8 (m:Nat))) (hy:ev ρ y=some (.int .u8 (n:Nat))):bJ P ρ o (.int .u8 (((m+n)%256:Nat):Int)):=(oY ho hx hy).cast (by rw[si];simp)
theorem P1 (ho:o.op=.binOp .sub ty x y cS) (hx:ev ρ x=some (.int .u8 (m:Nat))) (hy:ev ρ y=some (.int .u8 (n:Nat))) (h:n≤256):bJ P ρ o (.int .u8 (((m+256-n)%256:Nat):Int)):=(m4 ho hx hy).cast (by rw[si];congr 1;omega)
theorem P3 (ho:o.op=.binOp .shl ty x y cS) (hx:ev ρ x=some (.int .u8 (m:Nat))) (hy:ev ρ y=some (.int k' (n:Nat))):bJ P ρ o (.int .u8 ((m*2^n%256:Nat):Int)):=(lT ho hx hy).cast (by
  rw[si,show IntKind.bits .u8=8 from rfl];congr 1;rcases Nat.le_total n 8 with h1|h1
  · rw[Nat.min_eq_left h1];simp
  · rw[Nat.min_eq_right h1];have e:m*2^n=(m*2^(n-8))*256:=by rw[Nat.mul_assoc,show(256:Nat)=2^8 from rfl, ←Nat.pow_add];congr 2;omega
    rw[e,Nat.mul_mod_left];have:((m:Nat):Int)*2^8=(m:Int)*256:=Oi;omega)
theorem Uv {s t:TypeId} {D:TypeDesc} {k:IntKind} (ho:o.op=.convert s t x) (hs:P.underlying s=some D) (ht:P.underlying t=some (.int .u8)) (hx:ev ρ x=some (.int k (m:Nat))):bJ P ρ o (.int .u8 ((m%256:Nat):Int)):=(jM ho hs ht hx).cast (by rw[si];simp)
theorem Jf (ho:o.op=.binOp .add ty x y cS) (hx:ev ρ x=some (.int .u16 (m:Nat))) (hy:ev ρ y=some (.int .u16 (n:Nat))) (h:m+n≤65535):bJ P ρ o (.int .u16 ((m+n:Nat):Int)):=(oY ho hx hy).cast (by
  have e:((m:Nat):Int)+((n:Nat):Int)=((m+n:Nat):Int):=Oi;rw[e,IntWalk.u16_in _ ⟨Om,Om⟩])
theorem Jg (ho:o.op=.binOp .sub ty x y cS) (hx:ev ρ x=some (.int .u16 (m:Nat))) (hy:ev ρ y=some (.int .u16 (n:Nat))) (h:n≤m∧m≤65535):bJ P ρ o (.int .u16 ((m-n:Nat):Int)):=(m4 ho hx hy).cast (by
  have e:((m:Nat):Int)-((n:Nat):Int)=((m-n:Nat):Int):=Om;rw[e,IntWalk.u16_in _ ⟨Om,Om⟩])
theorem Jh (ho:o.op=.binOp .and ty x y cS) (hx:ev ρ x=some (.int .u16 (m:Nat))) (hy:ev ρ y=some (.int .u16 (n:Nat))) (h:m<65536∨n<65536) (hm:m<65536) (hn:n<65536):bJ P ρ o (.int .u16 ((m&&&n:Nat):Int)):=(uc ho hx hy).cast (by
  rw[BitVec.toNat_and,show IntKind.bits .u16=16 from rfl,gJ _ _ hm,gJ _ _ hn,IntWalk.u16_in _ ⟨Om,?_⟩];have h1:=@Nat.and_le_left m n;have h2:=@Nat.and_le_right m n;omega)
theorem P4 (ho:o.op=.binOp .or ty x y cS) (hx:ev ρ x=some (.int .u16 (m:Nat))) (hy:ev ρ y=some (.int .u16 (n:Nat))) (hm:m<65536) (hn:n<65536):bJ P ρ o (.int .u16 ((m|||n:Nat):Int)):=(Fx ho hx hy).cast (by
  rw[BitVec.toNat_or,show IntKind.bits .u16=16 from rfl,gJ _ _ Om,gJ _ _ Om,IntWalk.u16_in _ ⟨Om,?_⟩];have h1:=Nat.or_lt_two_pow (n:=16) (x:=m) (y:=n) Om Om;omega)
theorem Ji (ho:o.op=.binOp .shr ty x y cS) (hx:ev ρ x=some (.int .u16 (m:Nat))) (hy:ev ρ y=some (.int k' (n:Nat))) (h:m<65536):bJ P ρ o (.int .u16 ((m/2^n:Nat):Int)):=(rf ho hx hy).cast (by rw[nO _ _ _ (by simpa [IntKind.bits] using h)])
theorem Jj (ho:o.op=.binOp .shl ty x y cS) (hx:ev ρ x=some (.int .u16 (m:Nat))) (hy:ev ρ y=some (.int k' (n:Nat))) (hn:n≤16) (h:m*2^n≤65535):bJ P ρ o (.int .u16 ((m*2^n:Nat):Int)):=(lT ho hx hy).cast (by
  have e:((m:Nat):Int)*2^(min n (IntKind.bits .u16))=((m*2^n:Nat):Int):=by
    rw[Nat.min_eq_left (by simpa [IntKind.bits] using hn)];simp
  rw[e,IntWalk.u16_in _ ⟨Om,Om⟩])
theorem P5 {s t:TypeId} {D:TypeDesc} {k:IntKind} (ho:o.op=.convert s t x) (hs:P.underlying s=some D) (ht:P.underlying t=some (.int .u16)) (hx:ev ρ x=some (.int k (m:Nat))) (h:m≤65535):bJ P ρ o (.int .u16 ((m:Nat):Int)):=(jM ho hs ht hx).cast (by rw[IntWalk.u16_in _ ⟨Om,Om⟩])
theorem Fz {s t:TypeId} {D:TypeDesc} {k:IntKind} (ho:o.op=.convert s t x) (hs:P.underlying s=some D) (ht:P.underlying t=some (.int .u16)) (hx:ev ρ x=some (.int k a)) (h:0≤a∧a≤65535):bJ P ρ o (.int .u16 a):=(jM ho hs ht hx).cast (by rw[IntWalk.u16_in _ h])
theorem yO (a:Int):IntKind.u16.wrap a=a%65536:=by simp[IntKind.wrap,IntKind.bits,IntKind.signed]
theorem Jk (ho:o.op=.binOp .shl ty x y cS) (hx:ev ρ x=some (.int .u16 (m:Nat))) (hy:ev ρ y=some (.int k' (n:Nat))):bJ P ρ o (.int .u16 ((m*2^n%65536:Nat):Int)):=(lT ho hx hy).cast (by
  rw[yO,show IntKind.bits .u16=16 from rfl];congr 1;rcases Nat.le_total n 16 with h1|h1
  · rw[Nat.min_eq_left h1];simp
  · rw[Nat.min_eq_right h1];have e:m*2^n=(m*2^(n-16))*65536:=by rw[Nat.mul_assoc,show(65536:Nat)=2^16 from rfl, ←Nat.pow_add];congr 2;omega
    rw[e,Nat.mul_mod_left];have:((m:Nat):Int)*2^16=(m:Int)*65536:=Oi;omega)
theorem P7 {s t:TypeId} {D:TypeDesc} {k:IntKind} (ho:o.op=.convert s t x) (hs:P.underlying s=some D) (ht:P.underlying t=some (.int .u16)) (hx:ev ρ x=some (.int k (m:Nat))):bJ P ρ o (.int .u16 ((m%65536:Nat):Int)):=(jM ho hs ht hx).cast (by rw[yO];simp)
theorem Jl (ho:o.op=.binOp .add ty x y cS) (hx:ev ρ x=some (.int .u32 (m:Nat))) (hy:ev ρ y=some (.int .u32 (n:Nat))) (h:m+n≤4294967295):bJ P ρ o (.int .u32 ((m+n:Nat):Int)):=(oY ho hx hy).cast (by
  have e:((m:Nat):Int)+((n:Nat):Int)=((m+n:Nat):Int):=Oi;rw[e,IntWalk.u32_in _ ⟨Om,Om⟩])
theorem Jm (ho:o.op=.binOp .mul ty x y cS) (hx:ev ρ x=some (.int .u32 (m:Nat))) (hy:ev ρ y=some (.int .u32 (n:Nat))) (h:m*n≤4294967295):bJ P ρ o (.int .u32 ((m*n:Nat):Int)):=(wc ho hx hy).cast (by
  have e:((m:Nat):Int)*((n:Nat):Int)=((m*n:Nat):Int):=Oi;rw[e,IntWalk.u32_in _ ⟨Om,Om⟩])
theorem Jn (ho:o.op=.binOp .sub ty x y cS) (hx:ev ρ x=some (.int .u32 (m:Nat))) (hy:ev ρ y=some (.int .u32 (n:Nat))) (h:n≤m∧m≤4294967295):bJ P ρ o (.int .u32 ((m-n:Nat):Int)):=(m4 ho hx hy).cast (by
  have e:((m:Nat):Int)-((n:Nat):Int)=((m-n:Nat):Int):=Om;rw[e,IntWalk.u32_in _ ⟨Om,Om⟩])
theorem Jo (ho:o.op=.binOp .and ty x y cS) (hx:ev ρ x=some (.int .u32 (m:Nat))) (hy:ev ρ y=some (.int .u32 (n:Nat))) (h:m<4294967296∨n<4294967296) (hm:m<4294967296) (hn:n<4294967296):bJ P ρ o (.int .u32 ((m&&&n:Nat):Int)):=(uc ho hx hy).cast (by
  rw[BitVec.toNat_and,show IntKind.bits .u32=32 from rfl,gJ _ _ hm,gJ _ _ hn,IntWalk.u32_in _ ⟨Om,?_⟩];have h1:=@Nat.and_le_left m n;have h2:=@Nat.and_le_right m n;omega)
theorem ly (ho:o.op=.binOp .or ty x y cS) (hx:ev ρ x=some (.int .u32 (m:Nat))) (hy:ev ρ y=some (.int .u32 (n:Nat))) (hm:m<4294967296) (hn:n<4294967296):bJ P ρ o (.int .u32 ((m|||n:Nat):Int)):=(Fx ho hx hy).cast (by
  rw[BitVec.toNat_or,show IntKind.bits .u32=32 from rfl,gJ _ _ Om,gJ _ _ Om,IntWalk.u32_in _ ⟨Om,?_⟩];have h1:=Nat.or_lt_two_pow (n:=32) (x:=m) (y:=n) Om Om;omega)
theorem Jp (ho:o.op=.binOp .shr ty x y cS) (hx:ev ρ x=some (.int .u32 (m:Nat))) (hy:ev ρ y=some (.int k' (n:Nat))) (h:m<4294967296):bJ P ρ o (.int .u32 ((m/2^n:Nat):Int)):=(rf ho hx hy).cast (by rw[nO _ _ _ (by simpa [IntKind.bits] using h)])
theorem Jq (ho:o.op=.binOp .shl ty x y cS) (hx:ev ρ x=some (.int .u32 (m:Nat))) (hy:ev ρ y=some (.int k' (n:Nat))) (hn:n≤32) (h:m*2^n≤4294967295):bJ P ρ o (.int .u32 ((m*2^n:Nat):Int)):=(lT ho hx hy).cast (by
  have e:((m:Nat):Int)*2^(min n (IntKind.bits .u32))=((m*2^n:Nat):Int):=by
    rw[Nat.min_eq_left (by simpa [IntKind.bits] using hn)];simp
  rw[e,IntWalk.u32_in _ ⟨Om,Om⟩])
theorem Jr (ho:o.op=.binOp .quo ty x y cS) (hx:ev ρ x=some (.int .u32 (m:Nat))) (hy:ev ρ y=some (.int .u32 (n:Nat))) (h0:0<n) (hm:m≤4294967295):bJ P ρ o (.int .u32 ((m/n:Nat):Int)):=(zV ho hx hy Om).cast (by
  rw[Int.tdiv_eq_ediv_of_nonneg Om, ←Int.natCast_ediv];have h1:=Nat.div_le_self m n;generalize m/n=q at*;rw[IntWalk.u32_in _ ⟨Om,Om⟩])
theorem Js (ho:o.op=.binOp .rem ty x y cS) (hx:ev ρ x=some (.int .u32 (m:Nat))) (hy:ev ρ y=some (.int .u32 (n:Nat))) (h0:0<n):bJ P ρ o (.int .u32 ((m%n:Nat):Int)):=(IX ho hx hy Om).cast (by rw[Int.tmod_eq_emod_of_nonneg Om, ←Int.natCast_emod])
theorem P8 {s t:TypeId} {D:TypeDesc} {k:IntKind} (ho:o.op=.convert s t x) (hs:P.underlying s=some D) (ht:P.underlying t=some (.int .u32)) (hx:ev ρ x=some (.int k (m:Nat))) (h:m≤4294967295):bJ P ρ o (.int .u32 ((m:Nat):Int)):=(jM ho hs ht hx).cast (by rw[IntWalk.u32_in _ ⟨Om,Om⟩])
theorem zX {s t:TypeId} {D:TypeDesc} {k:IntKind} (ho:o.op=.convert s t x) (hs:P.underlying s=some D) (ht:P.underlying t=some (.int .u32)) (hx:ev ρ x=some (.int k a)) (h:0≤a∧a≤4294967295):bJ P ρ o (.int .u32 a):=(jM ho hs ht hx).cast (by rw[IntWalk.u32_in _ h])
theorem pX (a:Int):IntKind.u32.wrap a=a%4294967296:=by simp[IntKind.wrap,IntKind.bits,IntKind.signed]
theorem Jt (ho:o.op=.binOp .mul ty x y cS) (hx:ev ρ x=some (.int .u32 (m:Nat))) (hy:ev ρ y=some (.int .u32 (n:Nat))):bJ P ρ o (.int .u32 (((m*n)%4294967296:Nat):Int)):=(wc ho hx hy).cast (by rw[pX];simp)
theorem Ju (ho:o.op=.binOp .sub ty x y cS) (hx:ev ρ x=some (.int .u32 (m:Nat))) (hy:ev ρ y=some (.int .u32 (n:Nat))) (h:n≤4294967296):bJ P ρ o (.int .u32 (((m+4294967296-n)%4294967296:Nat):Int)):=(m4 ho hx hy).cast (by rw[pX];congr 1;omega)
theorem Jv (ho:o.op=.binOp .shl ty x y cS) (hx:ev ρ x=some (.int .u32 (m:Nat))) (hy:ev ρ y=some (.int k' (n:Nat))):bJ P ρ o (.int .u32 ((m*2^n%4294967296:Nat):Int)):=(lT ho hx hy).cast (by
  rw[pX,show IntKind.bits .u32=32 from rfl];congr 1;rcases Nat.le_total n 32 with h1|h1
  · rw[Nat.min_eq_left h1];simp
  · rw[Nat.min_eq_right h1];have e:m*2^n=(m*2^(n-32))*4294967296:=by rw[Nat.mul_assoc,show(4294967296:Nat)=2^32 from rfl, ←Nat.pow_add];congr 2;omega
    rw[e,Nat.mul_mod_left];have:((m:Nat):Int)*2^32=(m:Int)*4294967296:=Oi;omega)
theorem P9 {s t:TypeId} {D:TypeDesc} {k:IntKind} (ho:o.op=.convert s t x) (hs:P.underlying s=some D) (ht:P.underlying t=some (.int .u32)) (hx:ev ρ x=some (.int k (m:Nat))):bJ P ρ o (.int .u32 ((m%4294967296:Nat):Int)):=(jM ho hs ht hx).cast (by rw[pX];simp)
theorem Jw (ho:o.op=.binOp .add ty x y cS) (hx:ev ρ x=some (.int .u64 (m:Nat))) (hy:ev ρ y=some (.int .u64 (n:Nat))) (h:m+n≤18446744073709551615):bJ P ρ o (.int .u64 ((m+n:Nat):Int)):=(oY ho hx hy).cast (by
  have e:((m:Nat):Int)+((n:Nat):Int)=((m+n:Nat):Int):=Oi;rw[e,IntWalk.u64_in _ ⟨Om,Om⟩])
theorem Jx (ho:o.op=.binOp .mul ty x y cS) (hx:ev ρ x=some (.int .u64 (m:Nat))) (hy:ev ρ y=some (.int .u64 (n:Nat))) (h:m*n≤18446744073709551615):bJ P ρ o (.int .u64 ((m*n:Nat):Int)):=(wc ho hx hy).cast (by
  have e:((m:Nat):Int)*((n:Nat):Int)=((m*n:Nat):Int):=Oi;rw[e,IntWalk.u64_in _ ⟨Om,Om⟩])
theorem Jy (ho:o.op=.binOp .sub ty x y cS) (hx:ev ρ x=some (.int .u64 (m:Nat))) (hy:ev ρ y=some (.int .u64 (n:Nat))) (h:n≤m∧m≤18446744073709551615):bJ P ρ o (.int .u64 ((m-n:Nat):Int)):=(m4 ho hx hy).cast (by
  have e:((m:Nat):Int)-((n:Nat):Int)=((m-n:Nat):Int):=Om;rw[e,IntWalk.u64_in _ ⟨Om,Om⟩])
theorem Jz (ho:o.op=.binOp .and ty x y cS) (hx:ev ρ x=some (.int .u64 (m:Nat))) (hy:ev ρ y=some (.int .u64 (n:Nat))) (h:m<18446744073709551616∨n<18446744073709551616) (hm:m<18446744073709551616) (hn:n<18446744073709551616):bJ P ρ o (.int .u64 ((m&&&n:Nat):Int)):=(uc ho hx hy).cast (by
  rw[BitVec.toNat_and,show IntKind.bits .u64=64 from rfl,gJ _ _ hm,gJ _ _ hn,IntWalk.u64_in _ ⟨Om,?_⟩];have h1:=@Nat.and_le_left m n;have h2:=@Nat.and_le_right m n;omega)
theorem nQ (ho:o.op=.binOp .or ty x y cS) (hx:ev ρ x=some (.int .u64 (m:Nat))) (hy:ev ρ y=some (.int .u64 (n:Nat))) (hm:m<18446744073709551616) (hn:n<18446744073709551616):bJ P ρ o (.int .u64 ((m|||n:Nat):Int)):=(Fx ho hx hy).cast (by
  rw[BitVec.toNat_or,show IntKind.bits .u64=64 from rfl,gJ _ _ Om,gJ _ _ Om,IntWalk.u64_in _ ⟨Om,?_⟩];have h1:=Nat.or_lt_two_pow (n:=64) (x:=m) (y:=n) Om Om;omega)
theorem JA (ho:o.op=.binOp .shr ty x y cS) (hx:ev ρ x=some (.int .u64 (m:Nat))) (hy:ev ρ y=some (.int k' (n:Nat))) (h:m<18446744073709551616):bJ P ρ o (.int .u64 ((m/2^n:Nat):Int)):=(rf ho hx hy).cast (by rw[nO _ _ _ (by simpa [IntKind.bits] using h)])
theorem JB (ho:o.op=.binOp .shl ty x y cS) (hx:ev ρ x=some (.int .u64 (m:Nat))) (hy:ev ρ y=some (.int k' (n:Nat))) (hn:n≤64) (h:m*2^n≤18446744073709551615):bJ P ρ o (.int .u64 ((m*2^n:Nat):Int)):=(lT ho hx hy).cast (by
  have e:((m:Nat):Int)*2^(min n (IntKind.bits .u64))=((m*2^n:Nat):Int):=by
    rw[Nat.min_eq_left (by simpa [IntKind.bits] using hn)];simp
  rw[e,IntWalk.u64_in _ ⟨Om,Om⟩])
theorem JC (ho:o.op=.binOp .quo ty x y cS) (hx:ev ρ x=some (.int .u64 (m:Nat))) (hy:ev ρ y=some (.int .u64 (n:Nat))) (h0:0<n) (hm:m≤18446744073709551615):bJ P ρ o (.int .u64 ((m/n:Nat):Int)):=(zV ho hx hy Om).cast (by
  rw[Int.tdiv_eq_ediv_of_nonneg Om, ←Int.natCast_ediv];have h1:=Nat.div_le_self m n;generalize m/n=q at*;rw[IntWalk.u64_in _ ⟨Om,Om⟩])
theorem P' {s t:TypeId} {D:TypeDesc} {k:IntKind} (ho:o.op=.convert s t x) (hs:P.underlying s=some D) (ht:P.underlying t=some (.int .u64)) (hx:ev ρ x=some (.int k (m:Nat))) (h:m≤18446744073709551615):bJ P ρ o (.int .u64 ((m:Nat):Int)):=(jM ho hs ht hx).cast (by rw[IntWalk.u64_in _ ⟨Om,Om⟩])
theorem GX (a:Int):IntKind.u64.wrap a=a%18446744073709551616:=by simp[IntKind.wrap,IntKind.bits,IntKind.signed]
theorem JD (ho:o.op=.binOp .shl ty x y cS) (hx:ev ρ x=some (.int .u64 (m:Nat))) (hy:ev ρ y=some (.int k' (n:Nat))):bJ P ρ o (.int .u64 ((m*2^n%18446744073709551616:Nat):Int)):=(lT ho hx hy).cast (by
  rw[GX,show IntKind.bits .u64=64 from rfl];congr 1;rcases Nat.le_total n 64 with h1|h1
  · rw[Nat.min_eq_left h1];simp
  · rw[Nat.min_eq_right h1];have e:m*2^n=(m*2^(n-64))*18446744073709551616:=by rw[Nat.mul_assoc,show(18446744073709551616:Nat)=2^64 from rfl, ←Nat.pow_add];congr 2;omega
    rw[e,Nat.mul_mod_left];have:((m:Nat):Int)*2^64=(m:Int)*18446744073709551616:=Oi;omega)
end
def fieldOff (P:Program) (s f:Nat):Option Nat:=
  match P.underlying s with
  |some (.struct fs)=>match fs[f]? with
    |some fl=>match P.info? fl.type with
      |some i=>if i.size=0 then none else some fl.offset
      |none=>none
    |none=>none
  |_=>none
def cL (P:Program) (t:Nat):Option Nat:=(P.info? t).map (·.size)
def cx (P:Program) (t:Nat):Option Nat:=
  match P.underlying t with
  |some (.slice e)=>cL P e
  |_=>none
def dJ (P:Program) (t:Nat):Option (Nat × Nat):=
  match P.underlying t with
  |some (.array n e)=>(cL P e).map fun s=>(n,s)
  |_=>none
def fm (P:Program) (t:Nat):Option Bool:=
  match P.underlying t with
  |some (.struct _)=>some true
  |some (.array _ _)=>some true
  |some _=>some false
  |none=>none
def eL (P:Program) (t:Nat):Option (List Value):=(P.info? t).bind fun i=>i.zero.map fun z=>z.cells.toList
def nthS:Nat→List aV→Option aV
  |_,[]=>none
  |0,s::_=>some s
  |n+1,_::l=>nthS n l
def setS:Nat→aV→List aV→List aV
  |_,_,[]=>[]
  |0,s,_::l=>s::l
  |n+1,s,t::l=>t::setS n s l
theorem fb:∀(i:Nat) (l:List aV) (s:aV),nthS i l=some s→s ∈ l
  |_,[],_,h=>by simp[nthS] at h
  |0,t::l,s,h=>by simp[nthS] at h;simp[h]
  |n+1,t::l,s,h=>List.mem_cons_of_mem _ (fb n l s h)
theorem jO {P:Program} {t:Nat} {i:TypeInfo} (h:P.info? t=some i) (w:World):(typeInfo t).run P w=.ok i w:=by
  simp[typeInfo,h]
theorem dj {P:Program} {t n:Nat} (h:cL P t=some n) (w:World):(sizeOf t).run P w=.ok n w:=by
  unfold cL at h;cases hi:P.info? t with
  |none=>simp[hi] at h
  |some i=>simp[hi] at h;simp[sizeOf,jO hi,h]
theorem bA {P:Program} {t:Nat} {D:TypeDesc} (h:P.underlying t=some D) (w:World):(underlying t).run P w=.ok D w:=by
  simp[underlying,h]
theorem m5 {P:Program} {t:Nat} {b:Bool} (h:fm P t=some b) (w:World):(isAgg t).run P w=.ok b w:=by
  unfold fm at h;cases hu:P.underlying t with
  |none=>simp[hu] at h
  |some D=>cases D<;>simp[hu] at h<;>simp[isAgg,bA hu,h]
theorem eM (b q n:Nat):(⟨b,q,none⟩:Addr).add n=⟨b,q+n,none⟩:=by unfold Addr.add;split<;>simp_all
section
variable {P:Program} {K:Kx} {Q:Exit→Act→World→Prop} {ρ:bx} {l r:List aV} {o:Oper} {v:Value} {x y z:Operand} {t s f sz n m len cap b q j:Nat} {k:IntKind}
theorem akk (ho:o.op=.fieldAddr s x f) (hx:ev ρ x=some (.pointer (some ⟨b,q,none⟩))) (hP:fieldOff P s f=some n):bJ P ρ o (.pointer (some ⟨b,q+n,none⟩)):=fun ac ha w=>by
  unfold fieldOff at hP;cases hu:P.underlying s with
  |none=>simp[hu] at hP
  |some D=>
    cases D<;>simp[hu] at hP;rename_i fs;cases hf:fs[f]? with
    |none=>simp[hf] at hP
    |some fl=>
      simp only[hf] at hP;cases hi:P.info? fl.type with
      |none=>simp[hi] at hP
      |some i=>
        simp only[hi] at hP;split at hP
        · cases hP
        · rename_i rT;have hn:=Option.some.inj hP;subst hn;simp[execOp,ho,cq ha hx,Instr.fieldAt,bA hu,hf,Instr.sureAddr,fieldPlace,sizeOf,jO hi,rT,eM]
theorem fc {q':Nat} (ho:o.op=.indexAddr t x y) (hx:ev ρ x=some (.slice (some ⟨b,q,none⟩) len cap)) (hy:ev ρ y=some (.int k (m:Nat))) (hP:cx P t=some sz) (h:m<len) (hq:q+m*sz=q'):bJ P ρ o (.pointer (some ⟨b,q',none⟩)):=by
  subst hq;intro ac ha w;unfold cx at hP;cases hu:P.underlying t with
  |none=>simp[hu] at hP
  |some D=>
    cases D<;>simp[hu] at hP;simp[execOp,ho,cq ha hx,cq ha hy,Instr.indexAt,asIntOf,bA hu,h,dj hP,eM]
theorem acU {q':Nat} (ho:o.op=.indexAddr t x y) (hx:ev ρ x=some (.slice (some ⟨b,q,none⟩) len cap)) (hy:ev ρ y=some (.int k (m:Nat))) (hP:cx P t=some 1) (h:m<len) (hq:q+m=q'):bJ P ρ o (.pointer (some ⟨b,q',none⟩)):=
  fc ho hx hy hP h (by rw[Nat.mul_one];exact hq)
theorem acV {q':Nat} (ho:o.op=.indexAddr t x y) (hx:ev ρ x=some (.pointer (some ⟨b,q,none⟩))) (hy:ev ρ y=some (.int k (m:Nat))) (hP:dJ P t=some (n,sz)) (h:m<n) (hq:q+m*sz=q'):bJ P ρ o (.pointer (some ⟨b,q',none⟩)):=by
  subst hq;intro ac ha w;unfold dJ at hP;cases hu:P.underlying t with
  |none=>simp[hu] at hP
  |some D=>
    cases D<;>simp[hu] at hP;obtain⟨h1,rfl⟩:=hP;simp[execOp,ho,cq ha hx,cq ha hy,Instr.indexAt,asIntOf,bA hu,h,dj h1,eM,Instr.sureAddr]
theorem acW {q':Nat} (ho:o.op=.indexAddr t x y) (hx:ev ρ x=some (.pointer (some ⟨b,q,none⟩))) (hy:ev ρ y=some (.int k (m:Nat))) (hP:dJ P t=some (n,1)) (h:m<n) (hq:q+m=q'):bJ P ρ o (.pointer (some ⟨b,q',none⟩)):=
  acV ho hx hy hP h (by rw[Nat.mul_one];exact hq)
theorem FA {s:aV} {w:World} (h:s.tV w) (hc:s.cs[j]? =some v) (hq:q=s.o+j):w.cell? ⟨s.b,q,none⟩=some v:=by subst hq;exact h.1 j v hc
theorem yP {w:World} (hP:fm P t=some false) (hc:w.cell? ⟨b,q,none⟩=some v):(Instr.loadAt t (.pointer (some ⟨b,q,none⟩))).run P w=.ok v w:=by
  simp[Instr.loadAt,Instr.sureAddr,loadVar,m5 hP,hc]
theorem cQ {sg:aV} (i j:Nat) (hs:nthS i l=some sg) (ho:o.op=.load t x) (hx:ev ρ x=some (.pointer (some ⟨sg.b,q,none⟩))) (hP:fm P t=some false) (hq:q=sg.o+j) (hc:sg.cs[j]? =some v):rU P ρ l r o v:=fun ac w ha kt=>by
  simp[execOp,ho,cq ha hx,yP hP (FA (kt.hl sg (fb _ _ _ hs)) hc hq)]
theorem uT {sg:aV} (i j:Nat) (hs:nthS i r=some sg) (ho:o.op=.load t x) (hx:ev ρ x=some (.pointer (some ⟨sg.b,q,none⟩))) (hP:fm P t=some false) (hq:q=sg.o+j) (hc:sg.cs[j]? =some v):rU P ρ l r o v:=fun ac w ha kt=>by
  simp[execOp,ho,cq ha hx,yP hP (FA (kt.hr sg (fb _ _ _ hs)) hc hq)]
theorem Qa {s s':aV} (h1:s'.b=s.b) (h2:s'.o=s.o) (h3:s'.cs.length=s.cs.length) (b j:Nat):s'.has b j↔s.has b j:=by unfold aV.has;rw[h1,h2,h3]
theorem sk:∀(i:Nat) (s':aV) (l:List aV) (u:aV),u ∈ setS i s' l→u=s'∨u ∈ l
  |_,_,[],u,h=>by simp[setS] at h
  |0,s',t::l,u,h=>by simp[setS] at h;rcases h with h|h<;>simp[h]
  |n+1,s',t::l,u,h=>by
    simp only[setS,List.mem_cons] at h;rcases h with h|h
    · simp[h]
    · rcases sk n s' l u h with h'|h'<;>simp[h']
theorem yQ:∀(i:Nat) (s s':aV) (l:List aV) (u:aV),nthS i l=some s→l.Pairwise aV.apart→u ∈ setS i s' l→u=s'∨(u ∈ l∧u.apart s)
  |_,_,_,[],u,_,_,h=>by simp[setS] at h
  |0,s,s',t::l,u,hn,hp,h=>by
    simp[nthS] at hn;subst hn;simp only[setS,List.mem_cons] at h;rcases h with h|h
    · exact .inl h
    · exact .inr ⟨List.mem_cons_of_mem _ h,(List.rel_of_pairwise_cons hp h).symm⟩
  |n+1,s,s',t::l,u,hn,hp,h=>by
    simp only[nthS] at hn;simp only[setS,List.mem_cons] at h;rcases h with h|h
    · subst h;exact .inr ⟨List.mem_cons_self,List.rel_of_pairwise_cons hp (fb n l s hn)⟩
    · rcases yQ n s s' l u hn (List.Pairwise.of_cons hp) h with h'|h'
      · exact .inl h'
      · exact .inr ⟨List.mem_cons_of_mem _ h'.1,h'.2⟩
theorem FB:∀(i:Nat) (s s':aV) (l:List aV),nthS i l=some s→(∀b j,s'.has b j↔s.has b j)→l.Pairwise aV.apart→(setS i s' l).Pairwise aV.apart
  |_,_,_,[],_,_,_=>by simp[setS]
  |0,s,s',t::l,hn,hh,hp=>by
    simp[nthS] at hn;subst hn;simp only[setS];refine List.Pairwise.cons (fun u hu b j h1 h2=>?_) (List.Pairwise.of_cons hp);exact List.rel_of_pairwise_cons hp hu b j ((hh b j).1 h1) h2
  |n+1,s,s',t::l,hn,hh,hp=>by
    simp only[nthS] at hn;simp only[setS];refine List.Pairwise.cons (fun u hu b j h1 h2=>?_) (FB n s s' l hn hh (List.Pairwise.of_cons hp));rcases sk n s' l u hu with h|h
    · subst h;exact List.rel_of_pairwise_cons hp (fb n l s hn) b j h1 ((hh b j).1 h2)
    · exact List.rel_of_pairwise_cons hp h b j h1 h2
theorem At.store {a:Act} {w:World} {sg:aV} {i:Nat} (h:At K ρ l r a w) (hs:nthS i l=some sg) (hj:j<sg.cs.length) (v:Value):
    At K ρ (setS i ⟨sg.b,sg.o,sg.cs.set j v,sg.sh⟩ l) r a (w.setCell ⟨sg.b,sg.o+j,none⟩ v):=by
  have hm:=fb _ _ _ hs;have acX:sg.has sg.b (sg.o+j):=⟨rfl,Om,Om⟩;have hh:∀b j',(⟨sg.b,sg.o,sg.cs.set j v,sg.sh⟩:aV).has b j'↔sg.has b j':=Qa rfl rfl Oi;have hk:gh [sg] w (w.setCell ⟨sg.b,sg.o+j,none⟩ v):=gh.setCell w v ⟨sg,Oi,acX⟩;have kQ:=h.st.hl sg hm;have hold:∀u:aV,u.tV w→u.apart sg→u.tV (w.setCell ⟨sg.b,sg.o+j,none⟩ v):=fun u hu vt=>by
    refine⟨fun j' v' yM=>?_,fun j' GV=>?_,fun x hx=>?_⟩
    · rw[World.cell?_setCell_other]
      · exact hu.1 j' v' yM
      · intro e;injection e with e1 e2;have eU:j'<u.cs.length:=by
          rcases Nat.lt_or_ge j' u.cs.length with h'|h'
          · exact h'
          · simp[List.getElem?_eq_none h'] at yM
        exact vt sg.b (sg.o+j) ⟨e1.symm,Om,Om⟩ acX
    · rw[World.frozen?_setCell];exact hu.2.1 j' GV
    · exact hk.shape (hu.2.2 x hx)
  have Uw:(⟨sg.b,sg.o,sg.cs.set j v,sg.sh⟩:aV).tV (w.setCell ⟨sg.b,sg.o+j,none⟩ v):=by
    refine⟨fun j' v' yM=>?_,fun j' GV=>?_,fun x hx=>hk.shape (kQ.2.2 x hx)⟩
    · simp only[List.getElem?_set] at yM;by_cases e:j=j'
      · subst e;simp[hj] at yM;subst yM;exact World.cell?_setCell_same w _ v (kQ.1 j (sg.cs[j]) (by simp[hj]))
      · rw[if_neg e] at yM;show World.cell? _ ⟨sg.b,sg.o+j',none⟩=_;rw[World.cell?_setCell_other]
        · exact kQ.1 j' v' yM
        · intro e';injection e' with e1 e2;omega
    · show World.frozen? _ ⟨sg.b,sg.o+j',none⟩=_;rw[World.frozen?_setCell];exact kQ.2.1 j' (by simpa using GV)
  refine⟨h.size,h.defers,h.fr,h.keeps.trans' hk ?_,⟨?_,?_,FB i sg _ l hs hh h.st.pw,?_⟩,?_⟩
  · intro s hs' b j' hb;rw[List.mem_singleton] at hs';subst hs';exact h.own s hm b j' hb
  · intro u hu;rcases yQ i sg _ l u hs h.st.pw hu with h'|h'
    · subst h';exact Uw
    · exact hold u (h.st.hl u h'.1) h'.2
  · intro u hu;exact hold u (h.st.hr u hu) (h.st.lr sg hm u hu).symm
  · intro u hu t ht;rcases sk i _ l u hu with h'|h'
    · subst h';intro b j' h1 h2;exact h.st.lr sg hm t ht b j' ((hh b j').1 h1) h2
    · exact h.st.lr u h' t ht
  · intro u hu b j' hb;rcases sk i _ l u hu with h'|h'
    · subst h';exact h.own sg hm b j' ((hh b j').1 hb)
    · exact h.own u h' b j' hb
theorem uU {a:Addr} {w:World} {u:Value} (hv:v.oneCell'=true) (hc:w.cell? a=some u) (hf:w.frozen? a=false):(store a v).run P w=.ok () (w.setCell a v):=by
  rw[run_store _ _ _ _ _ hv,hc];simp[hf]
theorem GY (hv:v.oneCell'=true):v.cells= #[v]:=by cases v<;>first|rfl|(simp[Value.oneCell'] at hv)
theorem gK {sg:aV} (i j:Nat) {lb:List Value} (hs:nthS i l=some sg) (ho:o.op=.store t x y) (hx:ev ρ x=some (.pointer (some ⟨sg.b,q,none⟩))) (hy:ev ρ y=some v) (hP:cL P t=some 1) (hv:v.oneCell'=true)
    (hq:q=sg.o+j) (hj:j<sg.cs.length) (hd:o.dst=none) (hc:sg.cs.set j v=lb):nN P K ρ l r o (fun ρ' l'=>ρ'=ρ∧l'=setS i ⟨sg.b,sg.o,lb,sg.sh⟩ l):=by
  intro a w ha nx Q pY;have hm:=fb _ _ _ hs;have kQ:=ha.st.hl sg hm;subst hq;have lx:w.cell? ⟨sg.b,sg.o+j,none⟩=some sg.cs[j]:=kQ.1 j _ (by simp[hj]);unfold Oper.wp;have e:(execOp a.eval o).run P w=.ok .skip (w.setCell ⟨sg.b,sg.o+j,none⟩ v):=by
    simp[execOp,ho,cq ha.fr hx,cq ha.fr hy,Instr.storeAt,Instr.sureAddr,storeVar,dj hP,GY hv,storeCells,Addr.add,uU (P:=P) hv lx (kQ.2.1 _ hj)]
  rw[e];simp only[Oper.upon,hd,Act.put];exact pY _ _ ⟨ρ,_,⟨rfl,rfl⟩,by rw[←hc];exact ha.store hs hj v⟩
end
def takeOut:Nat→List aV→Option (aV × List aV)
  |_,[]=>none
  |0,s::l=>some (s,l)
  |n+1,t::l=>match takeOut n l with
    |some (s,l')=>some (s,t::l')
    |none=>none
def pickS:List Nat→List aV→Option (List aV × List aV)
  |[],l=>some ([],l)
  |i::is,l=>match takeOut i l with
    |some (s,l1)=>match pickS is l1 with
      |some (p,rest)=>some (s::p,rest)
      |none=>none
    |none=>none
def pickR:List Nat→List aV→Option (List aV)
  |[],_=>some []
  |i::is,l=>match nthS i l with
    |some s=>match pickR is l with
      |some p=>some (s::p)
      |none=>none
    |none=>none
theorem sn:∀(i:Nat) (l:List aV) (s:aV) (l':List aV),takeOut i l=some (s,l')→l.Perm (s::l')
  |_,[],_,_,h=>by simp[takeOut] at h
  |0,t::l,s,l',h=>by simp[takeOut] at h;obtain⟨rfl,rfl⟩:=h;exact .refl _
  |n+1,t::l,s,l',h=>by
    simp only[takeOut] at h;cases ht:takeOut n l with
    |none=>simp[ht] at h
    |some p=>
      obtain⟨s1,l1⟩:=p;simp[ht] at h;obtain⟨rfl,rfl⟩:=h;exact((sn n l s1 l1 ht).cons t).trans (.swap _ _ _)
theorem nR:∀(is:List Nat) (l p rest:List aV),pickS is l=some (p,rest)→l.Perm (p++rest)
  |[],l,p,rest,h=>by simp[pickS] at h;obtain⟨rfl,rfl⟩:=h;exact .refl _
  |i::is,l,p,rest,h=>by
    simp only[pickS] at h;cases ht:takeOut i l with
    |none=>simp[ht] at h
    |some q=>
      obtain⟨s,l1⟩:=q;simp only[ht] at h;cases hp:pickS is l1 with
      |none=>simp[hp] at h
      |some q2=>
        obtain⟨p1,acY⟩:=q2;simp[hp] at h;obtain⟨rfl,rfl⟩:=h;exact(sn i l s l1 ht).trans ((nR is l1 p1 acY hp).cons s)
theorem yR:∀(is:List Nat) (l p:List aV),pickR is l=some p→∀s ∈ p,s ∈ l
  |[],l,p,h,s,hs=>by simp[pickR] at h;subst h;cases hs
  |i::is,l,p,h,s,hs=>by
    simp only[pickR] at h;cases ht:nthS i l with
    |none=>simp[ht] at h
    |some q=>
      simp only[ht] at h;cases hp:pickR is l with
      |none=>simp[hp] at h
      |some p1=>
        simp[hp] at h;subst h;rcases List.mem_cons.1 hs with h'|h'
        · subst h';exact fb _ _ _ ht
        · exact yR is l p1 hp s h'
theorem St.perm {l l2 r:List aV} {w:World} (h:St l r w) (hp:l.Perm l2):St l2 r w:=
  ⟨fun s hs=>h.hl s (hp.mem_iff.2 hs),h.hr,(hp.pairwise_iff (fun h=>h.symm)).1 h.pw,fun s hs=>h.lr s (hp.mem_iff.2 hs)⟩
theorem St.left {l l2 r:List aV} {w:World} (h:St (l++l2) r w):St l r w:=
  ⟨fun s hs=>h.hl s (List.mem_append_left _ hs),h.hr,(List.pairwise_append.1 h.pw).1,fun s hs=>h.lr s (List.mem_append_left _ hs)⟩
theorem At.perm {K:Kx} {ρ:bx} {l l2 r:List aV} {a:Act} {w:World} (h:At K ρ l r a w) (hp:l.Perm l2):At K ρ l2 r a w:=
  ⟨h.size,h.defers,h.fr,h.keeps,h.st.perm hp,fun s hs=>h.own s (hp.mem_iff.2 hs)⟩
theorem At.left {K:Kx} {ρ:bx} {l l2 r:List aV} {a:Act} {w:World} (h:At K ρ (l++l2) r a w):At K ρ l r a w:=
  ⟨h.size,h.defers,h.fr,h.keeps,h.st.left,fun s hs=>h.own s (List.mem_append_left _ hs)⟩
theorem At.pick {K:Kx} {ρ:bx} {l p rest r:List aV} {a:Act} {w:World} (is:List Nat) (h:At K ρ l r a w) (hp:pickS is l=some (p,rest)):At K ρ p r a w:=
  (h.perm (nR _ _ _ _ hp)).left
def Bs (P:Program) (f:FuncId):Prop:=∃fn,P.funcs[f]? =some fn∧(fn.name== "runtime.NumGoroutine")=false∧fn.body.isNone=false
structure Ends (fo:Value→List aV→Prop) (l r:List aV) (w:World) (e:Ending) (w':World):Prop where
  mk'::
  out:∃v l',e=.returned v∧fo v l'∧gh l w w'∧St l' r w'∧∀s ∈ l',∀b j:Nat,s.has b j→(∃t ∈ l,t.has b j)∨w.heap.size≤b
structure bR (P:Program) (f:FuncId) (args:List Value) (l r:List aV) (fo:Value→List aV→Prop):Prop where
  can:Bs P f
  run:∀w,St l r w→Calls P f args.toArray w (Ends fo l r w)
def frArgs:Nat→List Value→bx
  |_,[]=>[]
  |i,v::vs=>(i,v)::frArgs (i+1) vs
theorem yS:∀(vs:List Value) (i t:Nat) (v:Value),look t (frArgs i vs)=some v→i≤t∧vs[t-i]? =some v
  |[],i,t,v,h=>by simp[frArgs,look] at h
  |u::vs,i,t,v,h=>by
    simp only[frArgs,look,cond_eq_ite] at h;by_cases e:Nat.beq i t=true
    · have e':=Nat.eq_of_beq_eq_true e;subst e';rw[if_pos e] at h;simp at h;simp[h]
    · rw[if_neg e] at h;obtain⟨h1,h2⟩:=yS vs (i+1) t v h;refine⟨Om,?_⟩;have:t-i=(t-(i+1))+1:=Om;rw[this];simpa using h2
theorem bR.intro {P:Program} {f:FuncId} {fn:Func} {c:Code} {args:List Value} {l r:List aV} {fo:Value→List aV→Prop} (hf:P.funcs[f]? =some fn) (hb:fn.body=some c) (JE:(fn.name== "runtime.NumGoroutine")=false) (hn:args.length≤fn.ntmps)
    (h:∀w0,G P ⟨fn.ntmps,l,w0⟩ (bodyPost P fn (Ends fo l r w0)) c (frArgs 0 args) l r):bR P f args l r fo:=by
  refine⟨⟨fn,hf,JE,by simp[hb]⟩,fun w kt=>calls_of_wp hf hb (h w _ w ⟨?_,rfl,?_,.refl _ _,kt,fun s hs b j hh=>.inl ⟨s,hs,hh⟩⟩)⟩
  · simp;omega
  · intro t v ht;obtain⟨_,h2⟩:=yS args 0 t v ht;have eU:t<args.length:=by
      rcases Nat.lt_or_ge t args.length with h'|h'
      · exact h'
      · simp[List.getElem?_eq_none h'] at h2
    simp at h2 ⊢;simp[Array.getElem?_append,eU];simpa [eU] using h2
theorem bR.mono {P:Program} {f:FuncId} {args:List Value} {l r:List aV} {fo SM:Value→List aV→Prop} (h:bR P f args l r fo) (hp:∀v l',fo v l'→SM v l'):bR P f args l r SM:=
  ⟨h.can,fun w kt=>(h.run w kt).mono fun e w' ⟨v,l',h1,h2,h3⟩=>⟨v,l',h1,hp _ _ h2,h3⟩⟩
def evs (ρ:bx):List Operand→Option (List Value)
  |[]=>some []
  |x::xs=>match ev ρ x with
    |some v=>match evs ρ xs with
      |some vs=>some (v::vs)
      |none=>none
    |none=>none
theorem rh {ρ:bx} {a:Act} (ha:sf ρ a):∀(xs:List Operand) (vs:List Value),evs ρ xs=some vs→xs.map a.eval=vs
  |[],vs,h=>by simp[evs] at h;simp[h]
  |x::xs,vs,h=>by
    simp only[evs] at h;cases hx:ev ρ x with
    |none=>simp[hx] at h
    |some v=>
      simp only[hx] at h;cases SN:evs ρ xs with
      |none=>simp[SN] at h
      |some us=>
        simp[SN] at h;subst h;simp[cq ha hx,rh ha xs us SN]
section
variable {P:Program} {K:Kx} {Q:Exit→Act→World→Prop} {ρ:bx} {l r:List aV} {o:Oper} {v:Value}
theorem sq {f:FuncId} (h:Bs P f) (args:Array Value) (w:World):(callFunc f args).run P w=.ok (.enter f args) w:=by
  obtain⟨fn,hf,hn,hb⟩:=h;simp only[callFunc,Sem.run_bind,run_program,Result.andThen_ok,hf];rw[if_neg (by rw[hn];simp),if_neg (by rw[hb];simp)]
  rfl
theorem At.yT {a:Act} {w w':World} {lc rest rc zY:List aV} (ha:At K ρ (lc++rest) r a w) (Qb:∀s ∈ rc,s ∈ rest++r) (hk:gh lc w w') (kt:St zY rc w')
    (GZ:∀s ∈ zY,∀b j:Nat,s.has b j→(∃t ∈ lc,t.has b j)∨w.heap.size≤b):At K ρ (zY++rest) r a w':=by
  have kQ:=ha.st;have Pa:=List.pairwise_append.1 kQ.pw;have SO:∀s:aV,s.tV w→(∀t ∈ lc,t.apart s)→s.tV w':=fun s hs vt=>hs.PF hk vt
  have SP:∀s ∈ zY,∀t:aV,t.tV w→(∀u ∈ lc,u.apart t)→s.apart t:=fun s hs t ht vt b j h1 h2=>by
    rcases GZ s hs b j h1 with ⟨u,hu,hu2⟩|zR
    · exact vt u hu b j hu2 h2
    · have:=ht.lt h2;omega
  have sd:∀t ∈ rest,∀u ∈ lc,u.apart t:=fun t ht u hu=>Pa.2.2 u hu t ht
  refine⟨ha.size,ha.defers,ha.fr,ha.keeps.trans' hk fun s hs b j hh=>ha.own s (List.mem_append_left _ hs) b j hh,⟨?_,?_,?_,?_⟩,?_⟩
  · intro s hs;rcases List.mem_append.1 hs with h|h
    · exact kt.hl s h
    · exact SO s (kQ.hl s (List.mem_append_right _ h)) (sd s h)
  · intro s hs;exact SO s (kQ.hr s hs) fun t ht=>kQ.lr t (List.mem_append_left _ ht) s hs
  · refine List.pairwise_append.2 ⟨kt.pw,Pa.2.1,fun s hs t ht=>SP s hs t (kQ.hl t (List.mem_append_right _ ht)) (sd t ht)⟩
  · intro s hs t ht;rcases List.mem_append.1 hs with h|h
    · exact SP s h t (kQ.hr t ht) fun u hu=>kQ.lr u (List.mem_append_left _ hu) t ht
    · exact kQ.lr s (List.mem_append_right _ h) t ht
  · intro s hs b j hh;rcases List.mem_append.1 hs with h|h
    · rcases GZ s h b j hh with ⟨u,hu,hu2⟩|zR
      · exact ha.own u (List.mem_append_left _ hu) b j hu2
      · exact .inr (Nat.le_trans ha.keeps.size zR)
    · exact ha.own s (List.mem_append_right _ h) b j hh
theorem St.SQ {l r rc rest:List aV} {w:World} (h:St (l++rest) r w) (Qb:∀s ∈ rc,s ∈ rest++r):St l rc w:=by
  have Pa:=List.pairwise_append.1 h.pw;refine⟨fun s hs=>h.hl s (List.mem_append_left _ hs),fun s hs=>?_,Pa.1,fun s hs t ht=>?_⟩
  · rcases List.mem_append.1 (Qb s hs) with h'|h'
    · exact h.hl s (List.mem_append_right _ h')
    · exact h.hr s h'
  · rcases List.mem_append.1 (Qb t ht) with h'|h'
    · exact Pa.2.2 s hs t h'
    · exact h.lr s (List.mem_append_left _ hs) t h'
theorem Ux {c:Call} {f:FuncId} {args:List Value} {lc rest rc:List aV} {fo:Value→List aV→Prop} {d:Nat} (is rs:List Nat) (vF:bR P f args lc rc fo) (ho:o.op=.call c) (hf:c.callee=.value (.func f)) (jj:evs ρ c.args.toList=some args)
    (hl:pickS is l=some (lc,rest)) (hr:pickR rs (rest++r)=some rc) (hd:o.dst=some d) (hn:Nat.blt d K.n=true):
    nN P K ρ l r o (fun ρ' l'=>∃v zY,fo v zY∧ρ'=(d,v)::ρ∧l'=zY++rest):=by
  intro a w ha nx Q pY;have hA:=ha.perm (nR _ _ _ _ hl);have Qb:=yR _ _ _ hr;have hca:=vF.run w (hA.st.SQ Qb);have nS:(c.args.map a.eval)=args.toArray:=by
    have:=rh ha.fr _ _ jj;apply Array.toList_inj.1;simpa using this
  have e:(execOp a.eval o).run P w=.ok (.enter f args.toArray) w:=by
    simp[execOp,ho,resolve,hf,nS,Act.eval,Deferred.ofValue,invoke,sq vF.can]
  unfold Oper.wp;rw[e];simp only[Oper.upon];refine hca.mono fun e w' hE=>?_
  obtain⟨v,zY,rfl,hP,hk,kt,GZ⟩:=hE.out;simp only[hd];exact pY _ _ ⟨(d,v)::ρ,zY++rest,⟨v,zY,hP,rfl,rfl⟩,(hA.yT Qb hk kt GZ).put hn v⟩
theorem nU {fo:Value→List aV→Prop} {l0 l' r:List aV} {w0:World} {n:Nat} {a:Act} {w:World} {ρ:bx} (h:At ⟨n,l0,w0⟩ ρ l' r a w) (hP:fo v l'):Ends fo l0 r w0 (.returned v) w:=
  ⟨v,l',rfl,hP,h.keeps,h.st,h.own⟩
variable {fn:Func} {fo:Value→List aV→Prop} {l0:List aV} {w0:World} {n:Nat} {p rest:List aV}
theorem ep (is:List Nat) (ud:fn.results= #[]) (hp:pickS is l=some (p,rest)) (hP:fo (.tuple #[]) p):GQ ⟨n,l0,w0⟩ (bodyPost P fn (Ends fo l0 r w0)) .normal ρ l r:=
  fun a w ha=>⟨ha.defers,_,by simp[results,ud],nU (ha.pick is hp) hP⟩
theorem oA (is:List Nat) (ud:fn.results= #[]) (hp:pickS is l=some (p,rest)) (hP:fo (.tuple #[]) p):GQ ⟨n,l0,w0⟩ (bodyPost P fn (Ends fo l0 r w0)) .ret ρ l r:=
  fun a w ha=>⟨ha.defers,_,by simp[results,ud],nU (ha.pick is hp) hP⟩
theorem zZ {a:Act} (ha:sf ρ a) {t:Nat} (h:look t ρ=some v):a.tmps.getD t undef=v:=by simp[ha t v h]
theorem bf {t:Nat} (is:List Nat) (ud:fn.results= #[.tmp t]) (hv:look t ρ=some v) (hp:pickS is l=some (p,rest)) (hP:fo v p):GQ ⟨n,l0,w0⟩ (bodyPost P fn (Ends fo l0 r w0)) .ret ρ l r:=
  fun a w ha=>⟨ha.defers,v,by rw[results_tmp ud,zZ ha.fr hv],nU (ha.pick is hp) hP⟩
theorem iY {t1 t2:Nat} {v1 v2:Value} (is:List Nat) (ud:fn.results= #[.tmp t1,.tmp t2]) (z5:look t1 ρ=some v1) (x8:look t2 ρ=some v2) (hp:pickS is l=some (p,rest)) (hP:fo (.tuple #[v1,v2]) p):
    GQ ⟨n,l0,w0⟩ (bodyPost P fn (Ends fo l0 r w0)) .ret ρ l r:=
  fun a w ha=>⟨ha.defers,_,by rw[results_tmp2 ud,zZ ha.fr z5,zZ ha.fr x8],nU (ha.pick is hp) hP⟩
theorem Qc {t1 t2 t3:Nat} {v1 v2 v3:Value} (is:List Nat) (ud:fn.results= #[.tmp t1,.tmp t2,.tmp t3]) (z5:look t1 ρ=some v1) (x8:look t2 ρ=some v2) (JF:look t3 ρ=some v3) (hp:pickS is l=some (p,rest)) (hP:fo (.tuple #[v1,v2,v3]) p):
    GQ ⟨n,l0,w0⟩ (bodyPost P fn (Ends fo l0 r w0)) .ret ρ l r:=
  fun a w ha=>⟨ha.defers,_,by simp[results,ud,ha.fr _ _ z5,ha.fr _ _ x8,ha.fr _ _ JF],nU (ha.pick is hp) hP⟩
theorem Bt {t1 t2 t3 t4:Nat} {v1 v2 v3 v4:Value} (is:List Nat) (ud:fn.results= #[.tmp t1,.tmp t2,.tmp t3,.tmp t4]) (z5:look t1 ρ=some v1) (x8:look t2 ρ=some v2) (JF:look t3 ρ=some v3) (Uy:look t4 ρ=some v4) (hp:pickS is l=some (p,rest)) (hP:fo (.tuple #[v1,v2,v3,v4]) p):
    GQ ⟨n,l0,w0⟩ (bodyPost P fn (Ends fo l0 r w0)) .ret ρ l r:=
  fun a w ha=>⟨ha.defers,_,by simp[results,ud,ha.fr _ _ z5,ha.fr _ _ x8,ha.fr _ _ JF,ha.fr _ _ Uy],nU (ha.pick is hp) hP⟩
end
def ae (k:IntKind) (xs:List Nat):List Value:=xs.map fun n=>.int k ((n:Nat):Int)
def ints (k:IntKind) (xs:List Int):List Value:=xs.map fun n=>.int k n
theorem af {k:IntKind} {xs:List Nat} {j:Nat} (h:j<xs.length):(ae k xs)[j]? =some (.int k ((xs.getD j 0:Nat):Int)):=by simp[ae,h]
theorem gn {k:IntKind} {xs:List Int} {j:Nat} (h:j<xs.length):(ints k xs)[j]? =some (.int k (xs.getD j 0)):=by simp[ints,h]
theorem Bu (k:IntKind) (xs:List Nat) (j v:Nat):(ae k xs).set j (.int k ((v:Nat):Int))=ae k (xs.set j v):=by simp[ae,List.map_set]
theorem ints_set (k:IntKind) (xs:List Int) (j:Nat) (v:Int):(ints k xs).set j (.int k v)=ints k (xs.set j v):=by simp[ints,List.map_set]
@[simp] theorem jk (k:IntKind) (xs:List Nat):(ae k xs).length=xs.length:=by simp[ae]
@[simp] theorem SR (k:IntKind) (xs:List Int):(ints k xs).length=xs.length:=by simp[ints]
section
variable {P:Program} {K:Kx} {Q:Exit→Act→World→Prop} {ρ:bx} {l r:List aV} {o:Oper} {v:Value} {x y z:Operand} {t s f sz n m lo hi len cap b q j:Nat} {k k':IntKind}
theorem run_loadCellsFrom {w:World} (a:Addr):∀(n i:Nat) (vs acc:Array Value),(∀j,j<n→w.cell? (a.add (i+j))=some (vs.getD j undef))→vs.size=n→(loadCellsFrom a i n acc).run P w=.ok (acc++vs) w
  |0,i,vs,acc,h,hs=>by
    have:vs= #[]:=by apply Array.eq_empty_of_size_eq_zero hs
    simp[loadCellsFrom,this]
  |n+1,i,vs,acc,h,hs=>by
    have h0:=h 0 Om;simp only[Nat.add_zero] at h0;obtain⟨L⟩:=vs;cases L with
    |nil=>simp at hs
    |cons v vs=>
      simp at hs;have ih:=run_loadCellsFrom (w:=w) a n (i+1) vs.toArray (acc.push v) (fun j hj=>by
        have:=h (j+1) Om;rw[show i+1+j=i+(j+1) by omega,this];simp) (by simp[hs])
      simp at h0;simp only[loadCellsFrom,Sem.run_bind,run_load,h0,Result.andThen_ok,ih];simp
theorem yU {w:World} {vs:List Value} (hP:fm P t=some true) (hz:cL P t=some vs.length) (h:∀j,j<vs.length→w.cell? ⟨b,q+j,none⟩=some (vs.getD j undef)):(Instr.loadAt t (.pointer (some ⟨b,q,none⟩))).run P w=.ok (.agg vs.toArray) w:=by
  have:=run_loadCellsFrom (P:=P) (w:=w) ⟨b,q,none⟩ vs.length 0 vs.toArray #[] (fun j hj=>by rw[eM,Nat.zero_add,h j hj];simp) Oi;simp[Instr.loadAt,Instr.sureAddr,loadVar,m5 hP,dj hz,loadCells,this]
theorem JG {p:Addr} (ho:o.op=.load t x) (hx:ev ρ x=some (.pointer (some p))) (hP:fm P t=some true) (hz:cL P t=some 0):bJ P ρ o (.agg #[]):=fun ac ha w=>by
  simp[execOp,ho,cq ha hx,Instr.loadAt,Instr.sureAddr,loadVar,m5 hP,dj hz,loadCells,loadCellsFrom]
theorem wg {cs vs:List Value} {i:Nat} (hv:(cs.drop j).take n=vs) (hn:vs.length=n) (hi:i<n):cs[j+i]? =some (vs.getD i undef):=by
  have h1:vs[i]? =cs[j+i]? :=by rw[←hv,List.getElem?_take,if_pos hi,List.getElem?_drop]
  rw[←h1,List.getD_eq_getElem?_getD,List.getElem?_eq_getElem Om];rfl
theorem yV {sg:aV} {vs:List Value} (i j:Nat) (hs:nthS i l=some sg) (ho:o.op=.load t x) (hx:ev ρ x=some (.pointer (some ⟨sg.b,q,none⟩))) (hP:fm P t=some true) (hz:cL P t=some n) (hq:q=sg.o+j) (hv:(sg.cs.drop j).take n=vs) (hn:vs.length=n):rU P ρ l r o (.agg vs.toArray):=fun ac w ha kt=>by
  have kQ:=kt.hl sg (fb _ _ _ hs);have e:=yU (P:=P) (w:=w) (b:=sg.b) (q:=q) (vs:=vs) hP (by rw[hz,hn]) (fun i hi=>by
    subst hq;rw[show sg.o+j+i=sg.o+(j+i) by omega];exact kQ.1 (j+i) _ (wg hv hn Om))
  simp[execOp,ho,cq ha hx,e]
theorem aM {sg:aV} {vs:List Value} (i j:Nat) (hs:nthS i r=some sg) (ho:o.op=.load t x) (hx:ev ρ x=some (.pointer (some ⟨sg.b,q,none⟩))) (hP:fm P t=some true) (hz:cL P t=some n) (hq:q=sg.o+j) (hv:(sg.cs.drop j).take n=vs) (hn:vs.length=n):rU P ρ l r o (.agg vs.toArray):=fun ac w ha kt=>by
  have kQ:=kt.hr sg (fb _ _ _ hs);have e:=yU (P:=P) (w:=w) (b:=sg.b) (q:=q) (vs:=vs) hP (by rw[hz,hn]) (fun i hi=>by
    subst hq;rw[show sg.o+j+i=sg.o+(j+i) by omega];exact kQ.1 (j+i) _ (wg hv hn Om))
  simp[execOp,ho,cq ha hx,e]
def spl (cs:List Value) (j:Nat):List Value→List Value
  |[]=>cs
  |v::vs=>spl (cs.set j v) (j+1) vs
theorem nV:∀(vs cs:List Value) (j:Nat),(spl cs j vs).length=cs.length
  |[],_,_=>rfl
  |v::vs,cs,j=>by simp[spl,nV vs]
theorem yW:∀(i:Nat) (s t:aV) (l:List aV),setS i s (setS i t l)=setS i s l
  |_,_,_,[]=>by simp[setS]
  |0,_,_,_::_=>rfl
  |n+1,s,t,_::l=>by simp[setS,yW n s t l]
theorem yX:∀(i:Nat) (s t:aV) (l:List aV),nthS i l=some t→nthS i (setS i s l)=some s
  |_,_,_,[],h=>by simp[nthS] at h
  |0,_,_,_::_,_=>rfl
  |n+1,s,t,_::l,h=>by simp only[nthS,setS] at h ⊢;exact yX n s t l h
theorem ku:∀(i:Nat) (s:aV) (l:List aV),nthS i l=some s→setS i s l=l
  |_,_,[],h=>by simp[nthS] at h
  |0,_,_::_,h=>by simp[nthS] at h;simp[setS,h]
  |n+1,s,_::l,h=>by simp only[nthS,setS] at h ⊢;rw[ku n s l h]
theorem ie {a:Act}:∀(vs:List Value) (i0 j:Nat) (l:List aV) (w:World) (sg:aV) (i:Nat) (b q:Nat),At K ρ l r a w→nthS i l=some sg→b=sg.b→q+i0=sg.o+j→j+vs.length≤sg.cs.length→(∀v ∈ vs,v.oneCell'=true)→
    ∃w',(storeCells ⟨b,q,none⟩ vs i0).run P w=.ok () w'∧At K ρ (setS i ⟨sg.b,sg.o,spl sg.cs j vs,sg.sh⟩ l) r a w'
  |[],i0,j,l,w,sg,i,b,q,ha,hs,_,_,_,_=>⟨w,rfl,by
      have:(⟨sg.b,sg.o,spl sg.cs j [],sg.sh⟩:aV)=sg:=rfl;rw[this,ku i sg l hs];exact ha⟩
  |v::vs,i0,j,l,w,sg,i,b,q,ha,hs,hb,hq,hj,hv=>by
    simp only[List.length_cons] at hj;subst hb;have h1:=ha.store hs (j:=j) Om v;have kQ:=ha.st.hl sg (fb _ _ _ hs);have lx:w.cell? ⟨sg.b,sg.o+j,none⟩=some (sg.cs[j]' Om):=kQ.1 j _ Oi;obtain⟨w',hr,hA⟩:=ie vs (i0+1) (j+1) _ _ ⟨sg.b,sg.o,sg.cs.set j v,sg.sh⟩ i sg.b q h1 (yX i _ _ _ hs) rfl (show q+(i0+1)=sg.o+(j+1) by omega) Oz (fun u hu=>hv u (List.mem_cons_of_mem _ hu));refine⟨w',?_,by rw[yW] at hA;exact hA⟩;simp only[storeCells,Sem.run_bind,eM,hq,uU (P:=P) (hv v List.mem_cons_self) lx (kQ.2.1 j Om),Result.andThen_ok];exact hr
theorem wj {sg:aV} {vs:List Value} (i j:Nat) {lb:List Value} (hs:nthS i l=some sg) (ho:o.op=.store t x y) (hx:ev ρ x=some (.pointer (some ⟨sg.b,q,none⟩))) (hy:ev ρ y=some (.agg vs.toArray)) (hP:cL P t=some n) (hn:vs.length=n) (hv:(vs.all fun u=>u.oneCell')=true)
    (hq:q=sg.o+j) (hj:j+n≤sg.cs.length) (hd:o.dst=none) (hc:spl sg.cs j vs=lb):nN P K ρ l r o (fun ρ' l'=>ρ'=ρ∧l'=setS i ⟨sg.b,sg.o,lb,sg.sh⟩ l):=by
  intro a w ha nx Q pY;obtain⟨w',hr,hA⟩:=ie (P:=P) vs 0 j l w sg i sg.b q ha hs rfl Om Om (fun u hu=>List.all_eq_true.1 hv u hu);unfold Oper.wp;have e:(execOp a.eval o).run P w=.ok .skip w':=by
    simp[execOp,ho,cq ha.fr hx,cq ha.fr hy,Instr.storeAt,Instr.sureAddr,storeVar,dj hP,Value.cells,hn,hr]
  rw[e];simp only[Oper.upon,hd,Act.put];exact pY _ _ ⟨ρ,_,⟨rfl,rfl⟩,by rw[←hc];exact hA⟩
theorem sr {q':Nat} (ho:o.op=.slice t x (some y) none none) (hx:ev ρ x=some (.slice (some ⟨b,q,none⟩) len cap)) (hy:ev ρ y=some (.int k (lo:Nat))) (hP:cx P t=some sz) (h:lo≤len∧lo<cap) (hq:q+lo*sz=q'):bJ P ρ o (.slice (some ⟨b,q',none⟩) (len-lo) (cap-lo)):=by
  subst hq;intro ac ha w;unfold cx at hP;cases hu:P.underlying t with
  |none=>simp[hu] at hP
  |some D=>
    cases D<;>simp[hu] at hP;simp[execOp,ho,cq ha hx,cq ha hy,Instr.sliceAt,bA hu,Instr.slice,Instr.sliceBounds,Instr.sliceBound,asIntOf,dj hP,h.1,eM,show¬cap=lo by omega]
theorem dM (ho:o.op=.slice t x none (some y) none) (hx:ev ρ x=some (.slice (some ⟨b,q,none⟩) len cap)) (hy:ev ρ y=some (.int k (hi:Nat))) (hP:cx P t=some sz) (h:hi≤cap):bJ P ρ o (.slice (some ⟨b,q,none⟩) hi cap):=fun ac ha w=>by
  unfold cx at hP;cases hu:P.underlying t with
  |none=>simp[hu] at hP
  |some D=>
    cases D<;>simp[hu] at hP;simp[execOp,ho,cq ha hx,cq ha hy,Instr.sliceAt,bA hu,Instr.slice,Instr.sliceBounds,Instr.sliceBound,asIntOf,dj hP,h,eM]
theorem wk {q':Nat} (ho:o.op=.slice t x (some y) (some z) none) (hx:ev ρ x=some (.slice (some ⟨b,q,none⟩) len cap)) (hy:ev ρ y=some (.int k (lo:Nat))) (hz:ev ρ z=some (.int k' (hi:Nat))) (hP:cx P t=some sz) (h:lo≤hi∧hi≤cap∧lo<cap) (hq:q+lo*sz=q'):bJ P ρ o (.slice (some ⟨b,q',none⟩) (hi-lo) (cap-lo)):=by
  subst hq;intro ac ha w;unfold cx at hP;cases hu:P.underlying t with
  |none=>simp[hu] at hP
  |some D=>
    cases D<;>simp[hu] at hP;simp[execOp,ho,cq ha hx,cq ha hy,cq ha hz,Instr.sliceAt,bA hu,Instr.slice,Instr.sliceBounds,Instr.sliceBound,asIntOf,dj hP,h.1,h.2.1,eM,show¬cap=lo by omega]
theorem m6 (ho:o.op=.slice t x none none none) (hx:ev ρ x=some (.pointer (some ⟨b,q,none⟩))) (hP:dJ P t=some (n,sz)):bJ P ρ o (.slice (some ⟨b,q,none⟩) n n):=fun ac ha w=>by
  unfold dJ at hP;cases hu:P.underlying t with
  |none=>simp[hu] at hP
  |some D=>
    cases D<;>simp[hu] at hP;obtain⟨h1,rfl⟩:=hP;simp[execOp,ho,cq ha hx,Instr.sliceAt,bA hu,Instr.sliceBounds,Instr.sureAddr,dj h1,eM]
theorem ib (ho:o.op=.slice t x none (some y) none) (hx:ev ρ x=some (.pointer (some ⟨b,q,none⟩))) (hy:ev ρ y=some (.int k (hi:Nat))) (hP:dJ P t=some (n,sz)) (h:hi≤n):bJ P ρ o (.slice (some ⟨b,q,none⟩) hi n):=fun ac ha w=>by
  unfold dJ at hP;cases hu:P.underlying t with
  |none=>simp[hu] at hP
  |some D=>
    cases D<;>simp[hu] at hP;obtain⟨h1,rfl⟩:=hP;simp[execOp,ho,cq ha hx,cq ha hy,Instr.sliceAt,bA hu,Instr.sliceBounds,Instr.sliceBound,asIntOf,Instr.sureAddr,dj h1,eM,h]
theorem At.alloc {a:Act} {w:World} (h:At K ρ l r a w) (cs:Array Value) (T:TypeId):At K ρ (⟨w.heap.size,0,cs.toList,some (T,cs.size)⟩::l) r a (w.alloc (.cells cs T)):=by
  have hk:gh [] w (w.alloc (.cells cs T)):=gh.alloc [] w _;have Uw:(⟨w.heap.size,0,cs.toList,some (T,cs.size)⟩:aV).tV (w.alloc (.cells cs T)):=by
    refine⟨fun j v hj=>?_,fun j hj=>?_,fun x hx=>?_⟩
    · show World.cell? _ ⟨w.heap.size,0+j,none⟩=_;rw[Nat.zero_add,World.cell?_alloc_new];simpa using hj
    · show World.frozen? _ ⟨w.heap.size,0+j,none⟩=_;rw[World.frozen?_alloc_new]
    · have hx':some (T,cs.size)=some x:=hx;rw[←hx'];show(match (w.heap.push (.cells cs T))[w.heap.size]? with|some (.cells c elem _)=>some (elem,c.size)|_=>none)=_;rw[Array.getElem?_push,if_pos rfl]
  have vt:∀s:aV,s.tV w→∀b j:Nat,s.has b j→¬(⟨w.heap.size,0,cs.toList,some (T,cs.size)⟩:aV).has b j:=fun s hs b j h1 h2=>by
    have:=hs.lt h1;have:=h2.1;simp at this;omega
  refine⟨h.size,h.defers,h.fr,h.keeps.trans' hk Oi,⟨?_,fun s hs=>(h.st.hr s hs).PF hk Oi,?_,?_⟩,?_⟩
  · intro s hs;rcases List.mem_cons.1 hs with h'|h'
    · subst h';exact Uw
    · exact(h.st.hl s h').PF hk Oi
  · exact List.Pairwise.cons (fun s hs b j h1 h2=>vt s (h.st.hl s hs) b j h2 h1) h.st.pw
  · intro s hs t ht;rcases List.mem_cons.1 hs with h'|h'
    · subst h';exact fun b j h1 h2=>vt t (h.st.hr t ht) b j h2 h1
    · exact h.st.lr s h' t ht
  · intro s hs b j hh;rcases List.mem_cons.1 hs with h'|h'
    · subst h';right;have:=hh.1;simp at this;have:=h.keeps.size;omega
    · exact h.own s h' b j hh
def Bv:Value→List Value
  | .agg cs=>cs.toList
  |v=>[v]
theorem uV (v:Value):v.cells.toList=Bv v:=by cases v<;>rfl
theorem m9 {d:Nat} {cs:List Value} (ho:o.op=.box t x) (hx:ev ρ x=some v) (hc:Bv v=cs) (hd:o.dst=some d) (hn:Nat.blt d K.n=true):
    nN P K ρ l r o (fun ρ' l'=>∃b,ρ'=(d,.pointer (some ⟨b,0,none⟩))::ρ∧l'=⟨b,0,cs,some (t,cs.length)⟩::l):=by
  intro a w ha nx Q pY;unfold Oper.wp;have e:(execOp a.eval o).run P w=.ok (.value (.pointer (some ⟨w.heap.size,0,none⟩))) (w.alloc (.cells v.cells t)):=by
    simp[execOp,ho,cq ha.fr hx,Instr.box,newVar,newRow]
  rw[e];simp only[Oper.upon,hd];refine pY _ _ ⟨_,_,⟨w.heap.size,rfl,rfl⟩,?_⟩;have h1:=(ha.alloc v.cells t).put hn (.pointer (some ⟨w.heap.size,0,none⟩));rw[uV,hc] at h1;have:v.cells.size=cs.length:=by rw[←hc, ←uV];simp
  rw[this] at h1;exact h1
theorem G0 {e:Nat} {ty:TypeId} {p:Option Addr} (hu:P.underlying ty=some (.pointer e)) (w:World) (d:Nat):(Op.equalIn (d+1) ty (.pointer p) (.pointer none)).run P w=.ok p.isNone w:=by
  cases p<;>simp[Op.equalIn,bA hu]
theorem G1 {ms:Array (String × TypeId)} {ty:TypeId} (hu:P.underlying ty=some (.interface ms)) (w:World) (d:Nat):(Op.equalIn (d+1) ty .nilIface .nilIface).run P w=.ok true w:=by
  simp[Op.equalIn,bA hu]
theorem G2 {ms:Array (String × TypeId)} {ty T:TypeId} {u:Value} (hu:P.underlying ty=some (.interface ms)) (w:World) (d:Nat):(Op.equalIn (d+1) ty (.iface T u) .nilIface).run P w=.ok false w:=by
  simp[Op.equalIn,bA hu]
theorem JH {e:Nat} {ty:TypeId} {p:Option Addr} (hu:P.underlying ty=some (.pointer e)) (w:World):(Op.equal ty (.pointer p) (.pointer none)).run P w=.ok p.isNone w:=G0 hu w 9999
theorem JI {ms:Array (String × TypeId)} {ty:TypeId} (hu:P.underlying ty=some (.interface ms)) (w:World):(Op.equal ty .nilIface .nilIface).run P w=.ok true w:=G1 hu w 9999
theorem JJ {ms:Array (String × TypeId)} {ty T:TypeId} {u:Value} (hu:P.underlying ty=some (.interface ms)) (w:World):(Op.equal ty (.iface T u) .nilIface).run P w=.ok false w:=G2 hu w 9999
theorem p4 {bo:BinOp} {u c:Value} {bb:Bool} {ty cS:TypeId} (hb:bo=.eql∨bo=.neq) (ho:o.op=.binOp bo ty x (.const c) cS) (hx:ev ρ x=some u) (hc:(∃p,u=.pointer p∧c=.pointer none)∨(c=.nilIface∧(u=.nilIface∨∃T q,u=.iface T q))) (h:∀w,(Op.equal ty u c).run P w=.ok bb w):bJ P ρ o (.bool (if bo=.eql then bb else !bb)):=fun ac ha w=>by
  have hg:(eqGuard bo ty x (.const c) u c).run P w=.ok () w:=by
    unfold eqGuard;rcases hb with rfl|rfl<;>rcases hc with ⟨p,rfl,rfl⟩|⟨rfl,rfl|⟨T,q,rfl⟩⟩<;>simp
  have hr:(binOp bo ty u c).run P w=.ok (.bool (if bo=.eql then bb else !bb)) w:=by
    rcases hb with rfl|rfl<;>rcases hc with ⟨p,rfl,rfl⟩|⟨rfl,rfl|⟨T,q,rfl⟩⟩<;>simp[binOp,h]
  have Uz:ac.eval (.const c)=c:=rfl;simp only[execOp,ho,cq ha hx,Uz,Sem.run_bind,hg,hr,Result.andThen_ok,Sem.run_pure]
theorem iZ {p:Addr} {e:Nat} {ty cS:TypeId} (ho:o.op=.binOp .eql ty x (.const (.pointer none)) cS) (hx:ev ρ x=some (.pointer (some p))) (hu:P.underlying ty=some (.pointer e)):bJ P ρ o (.bool false):=p4 (.inl rfl) ho hx (.inl ⟨_,rfl,rfl⟩) (JH hu)
theorem o9 {e:Nat} {ty cS:TypeId} (ho:o.op=.binOp .eql ty x (.const (.pointer none)) cS) (hx:ev ρ x=some (.pointer none)) (hu:P.underlying ty=some (.pointer e)):bJ P ρ o (.bool true):=p4 (.inl rfl) ho hx (.inl ⟨_,rfl,rfl⟩) (JH hu)
theorem Du {ms:Array (String × TypeId)} {ty cS:TypeId} (ho:o.op=.binOp .eql ty x (.const .nilIface) cS) (hx:ev ρ x=some .nilIface) (hu:P.underlying ty=some (.interface ms)):bJ P ρ o (.bool true):=p4 (.inl rfl) ho hx (.inr ⟨rfl,.inl rfl⟩) (JI hu)
theorem cT {ms:Array (String × TypeId)} {ty cS:TypeId} (ho:o.op=.binOp .neq ty x (.const .nilIface) cS) (hx:ev ρ x=some .nilIface) (hu:P.underlying ty=some (.interface ms)):bJ P ρ o (.bool false):=p4 (.inr rfl) ho hx (.inr ⟨rfl,.inl rfl⟩) (JI hu)
theorem yY {ms:Array (String × TypeId)} {T:TypeId} {u:Value} {ty cS:TypeId} (ho:o.op=.binOp .eql ty x (.const .nilIface) cS) (hx:ev ρ x=some (.iface T u)) (hu:P.underlying ty=some (.interface ms)):bJ P ρ o (.bool false):=p4 (.inl rfl) ho hx (.inr ⟨rfl,.inr ⟨_,_,rfl⟩⟩) (JJ hu)
theorem G3 {ms:Array (String × TypeId)} {T:TypeId} {u:Value} {ty cS:TypeId} (ho:o.op=.binOp .neq ty x (.const .nilIface) cS) (hx:ev ρ x=some (.iface T u)) (hu:P.underlying ty=some (.interface ms)):bJ P ρ o (.bool true):=p4 (.inr rfl) ho hx (.inr ⟨rfl,.inr ⟨_,_,rfl⟩⟩) (JJ hu)
theorem z6 {sb:ByteArray} {c:Nat} {t:Nat} (ho:o.op=.index t x y) (hx:ev ρ x=some (.string sb)) (hy:ev ρ y=some (.int k (m:Nat))) (hu:P.underlying t=some .string) (h:sb[m]?.map UInt8.toNat=some c):bJ P ρ o (.int .u8 ((c:Nat):Int)):=fun ac ha w=>by
  cases hs:sb[m]? with
  |none=>rw[hs] at h;simp at h
  |some b=>
    rw[hs] at h;simp at h;simp[execOp,ho,cq ha hx,cq ha hy,Instr.index,asIntOf,bA hu,hs,h]
theorem nY {a:Call} {ac:Act} (ha:sf ρ ac) {vs:List Value} (h:evs ρ a.args.toList=some vs):a.args.map ac.eval=vs.toArray:=by
  apply Array.toList_inj.1;simpa using rh ha _ _ h
theorem acZ {p:Option Addr} {a:Call} (ho:o.op=.call a) (hc:a.callee=.builtin .len) (hx:evs ρ a.args.toList=some [.slice p len cap]) (ht:a.argTypes= #[t]) (hu:P.underlying t=some (.slice s)):bJ P ρ o (.int .i64 ((len:Nat):Int)):=fun ac UA w=>by
  simp[execOp,ho,resolve,hc,nY UA hx,invoke,builtin,Builtin.len_,ht,bA hu,goInt]
theorem jP {p:Option Addr} {a:Call} (ho:o.op=.call a) (hc:a.callee=.builtin .cap) (hx:evs ρ a.args.toList=some [.slice p len cap]) (ht:a.argTypes= #[t]) (hu:P.underlying t=some (.slice s)):bJ P ρ o (.int .i64 ((cap:Nat):Int)):=fun ac UA w=>by
  simp[execOp,ho,resolve,hc,nY UA hx,invoke,builtin,Builtin.cap_,ht,bA hu,goInt]
end
section
variable {P:Program} {K:Kx} {Q:Exit→Act→World→Prop} {ρ:bx} {l r:List aV} {o:Oper} {v:Value} {x y z:Operand} {t s f sz n m c lo hi len cap b q j d:Nat} {k k':IntKind}
theorem At.ss {a:Act} {w:World} {s:aV} (h:At K ρ (s::l) r a w):At K ρ (⟨s.b,s.o,s.cs,none⟩::l) r a w:=by
  refine⟨h.size,h.defers,h.fr,h.keeps,⟨?_,h.st.hr,?_,?_⟩,?_⟩
  · intro u hu;rcases List.mem_cons.1 hu with h'|h'
    · subst h';have:=h.st.hl s List.mem_cons_self;exact⟨this.1,this.2.1,fun x hx=>by cases hx⟩
    · exact h.st.hl u (List.mem_cons_of_mem _ h')
  · have:=List.pairwise_cons.1 h.st.pw;exact List.Pairwise.cons (fun u hu=>this.1 u hu) this.2
  · intro u hu t ht;rcases List.mem_cons.1 hu with h'|h'
    · subst h';exact h.st.lr s List.mem_cons_self t ht
    · exact h.st.lr u (List.mem_cons_of_mem _ h') t ht
  · intro u hu b j hh;rcases List.mem_cons.1 hu with h'|h'
    · subst h';exact h.own s List.mem_cons_self b j hh
    · exact h.own u (List.mem_cons_of_mem _ h') b j hh
theorem yZ:∀(i:Nat) (s t:aV) (l:List aV),nthS i l=some t→(s::l).Perm (setS i s l++[t])
  |_,_,_,[],h=>by simp[nthS] at h
  |0,s,t,u::l,h=>by
    simp[nthS] at h;subst h;simp only[setS,List.cons_append];exact(List.perm_append_comm (l₁:=[u]) (l₂:=l)).cons s
  |n+1,s,t,u::l,h=>by
    simp only[nthS,setS] at h ⊢;exact(List.Perm.swap u s l).trans ((yZ n s t l h).cons u)
theorem At.UB {a:Act} {w:World} {s t:aV} {i:Nat} (h:At K ρ (s::l) r a w) (hi:nthS i l=some t):At K ρ (setS i s l) r a w:=(h.perm (yZ i s t l hi)).left
theorem At.empty {a:Act} {w:World} (h:At K ρ l r a w) (b o:Nat):At K ρ (⟨b,o,[],none⟩::l) r a w:=by
  have no:∀b' j:Nat,¬(⟨b,o,[],none⟩:aV).has b' j:=fun b' j hh=>by have:=hh.2;simp at this;omega
  refine⟨h.size,h.defers,h.fr,h.keeps,⟨?_,h.st.hr,?_,?_⟩,?_⟩
  · intro u hu;rcases List.mem_cons.1 hu with h'|h'
    · subst h';exact⟨fun j v hj=>by simp at hj,fun j hj=>by simp at hj,fun x hx=>by cases hx⟩
    · exact h.st.hl u h'
  · exact List.Pairwise.cons (fun u hu b j h1 _=>no b j h1) h.st.pw
  · intro u hu t ht;rcases List.mem_cons.1 hu with h'|h'
    · subst h';exact fun b j h1 _=>no b j h1
    · exact h.st.lr u h' t ht
  · intro u hu b j hh;rcases List.mem_cons.1 hu with h'|h'
    · subst h';exact(no b j hh).elim
    · exact h.own u h' b j hh
theorem G.qo {cd:Code} (h:G P K Q cd ρ (⟨0,0,[],none⟩::l) r):G P K Q cd ρ l r:=fun a w ha=>h a w (ha.empty 0 0)
theorem GL.qo {L rest:List Oper} (h:GL P K Q L rest ρ (⟨0,0,[],none⟩::l) r):GL P K Q L rest ρ l r:=fun a w ha=>h a w (ha.empty 0 0)
theorem GQ.qo {e:Exit} (h:GQ K Q e ρ (⟨0,0,[],none⟩::l) r):GQ K Q e ρ l r:=fun a w ha=>h a w (ha.empty 0 0)
theorem akl {cs:List Value} (ho:o.op=.alloc t) (hz:eL P t=some cs) (hd:o.dst=some d) (hn:Nat.blt d K.n=true):
    nN P K ρ l r o (fun ρ' l'=>∃b,ρ'=(d,.pointer (some ⟨b,0,none⟩))::ρ∧l'=⟨b,0,cs,none⟩::l):=by
  intro a w ha nx Q pY;unfold eL at hz;cases hi:P.info? t with
  |none=>simp[hi] at hz
  |some i=>
    cases ue:i.zero with
    |none=>simp[hi,ue] at hz
    |some zv=>
      simp[hi,ue] at hz;unfold Oper.wp;have e:(execOp a.eval o).run P w=.ok (.value (.pointer (some ⟨w.heap.size,0,none⟩))) (w.alloc (.cells zv.cells t)):=by
        simp[execOp,ho,Instr.alloc,zeroValue,jO hi,ue,newVar,newRow]
      rw[e];simp only[Oper.upon,hd];refine pY _ _ ⟨_,_,⟨w.heap.size,rfl,rfl⟩,?_⟩;have h1:=((ha.alloc zv.cells t).ss).put hn (.pointer (some ⟨w.heap.size,0,none⟩));rw[hz] at h1;exact h1
def fe (P:Program) (t:Nat):Option (Nat × List Value × Nat × Nat):=
  match P.underlying t with
  |some (.slice e)=>(P.info? e).bind fun i=>i.zero.map fun z=>(e,z.cells.toList,i.size,i.bytes)
  |_=>none
theorem jQ {e qs:Nat} {zs:List Value} (h:fe P t=some (e,zs,sz,qs)):∃i z,P.underlying t=some (.slice e)∧P.info? e=some i∧i.zero=some z∧z.cells.toList=zs∧i.size=sz∧i.bytes=qs:=by
  unfold fe at h;cases hu:P.underlying t with
  |none=>simp[hu] at h
  |some D=>
    cases D<;>simp[hu] at h;rename_i e';cases hi:P.info? e' with
    |none=>simp[hi] at h
    |some i=>
      cases hz:i.zero with
      |none=>simp[hi,hz] at h
      |some z=>
        simp[hi,hz] at h;obtain⟨rfl,h2,h3,h4⟩:=h;exact⟨i,z,rfl,hi,hz,h2,h3,h4⟩
theorem y0 (zs:List Value) (hz:0<zs.length):∀c,(List.range (c*zs.length)).map (fun i=>zs.toArray[i%zs.toArray.size]!)=(List.replicate c zs).flatten
  |0=>by simp
  |c+1=>by
    rw[Nat.add_mul,Nat.one_mul,List.range_add,List.map_append,y0 zs hz c,List.replicate_succ',List.flatten_append];congr 1;simp only[List.map_map,List.flatten_cons,List.flatten_nil,List.append_nil];apply List.ext_getElem
    · simp
    · intro i h1 h2;simp at h1;simp[Nat.mod_eq_of_lt h1,h1,getElem!_pos]
theorem wm {zv:Value} {zs:List Value} (h:zv.cells.toList=zs) (hz:zs.length=sz) (h0:0<sz) (c:Nat):(madeCells zv.cells (c*sz)).toList=(List.replicate c zs).flatten:=by
  subst hz;have:zv.cells=zs.toArray:=by apply Array.toList_inj.1;simpa using h
  rw[this];simp only[madeCells,Array.toList_map,Array.toList_range];exact y0 zs h0 c
theorem wo {kl kc:IntKind} {e qs:Nat} {zs:List Value} (ho:o.op=.makeSlice t x y) (hx:ev ρ x=some (.int kl ((m:Nat):Int))) (hy:ev ρ y=some (.int kc ((c:Nat):Int))) (hP:fe P t=some (e,zs,sz,qs)) (hz:zs.length=sz) (h0:0<sz) (h:m≤c∧qs*c≤281474976710656∧c≤9223372036854775807) (hd:o.dst=some d) (hn:Nat.blt d K.n=true):
    nN P K ρ l r o (fun ρ' l'=>∃b,ρ'=(d,.slice (some ⟨b,0,none⟩) m c)::ρ∧l'=⟨b,0,(List.replicate c zs).flatten,none⟩::l):=by
  intro a w ha nx Q pY;obtain⟨i,zv,hu,hi,ue,su,Bw,hby⟩:=jQ hP;unfold Oper.wp;have hb:(i.bytes:Int)*((c:Nat):Int)≤281474976710656:=by
    have:((i.bytes*c:Nat):Int)≤281474976710656:=by rw[hby];omega
    rwa [Int.natCast_mul] at this
  have hr:=run_make (P:=P) w t e i zv hu hi ue kl kc m c Om Om hb Om;simp only[Int.toNat_natCast,Bw] at hr;have he:(execOp a.eval o).run P w=.ok (.value (.slice (some ⟨w.heap.size,0,none⟩) m c)) (w.alloc (.cells (madeCells zv.cells (c*sz)) e)):=by
    simp[execOp,ho,cq ha.fr hx,cq ha.fr hy,hr]
  rw[he];simp only[Oper.upon,hd];refine pY _ _ ⟨_,_,⟨w.heap.size,rfl,rfl⟩,?_⟩;have h1:=((ha.alloc (madeCells zv.cells (c*sz)) e).ss).put hn (.slice (some ⟨w.heap.size,0,none⟩) m c);rw[wm su hz h0] at h1;exact h1
theorem akm {kl kc:IntKind} {e qs:Nat} {z:Value} (ho:o.op=.makeSlice t x y) (hx:ev ρ x=some (.int kl ((m:Nat):Int))) (hy:ev ρ y=some (.int kc ((c:Nat):Int))) (hP:fe P t=some (e,[z],1,qs)) (h:m≤c∧qs*c≤281474976710656∧c≤9223372036854775807) (hd:o.dst=some d) (hn:Nat.blt d K.n=true):
    nN P K ρ l r o (fun ρ' l'=>∃b,ρ'=(d,.slice (some ⟨b,0,none⟩) m c)::ρ∧l'=⟨b,0,List.replicate c z,none⟩::l):=by
  have:=wo (K:=K) (l:=l) (r:=r) ho hx hy hP rfl Om h hd hn;have e:(List.replicate c [z]).flatten=List.replicate c z:=by
    induction c with
    |zero=>rfl
    |succ n ih=>simp[List.replicate_succ]
  rwa [e] at this
structure GS (q:Option Addr) (b o:Nat) (cs:List Value) (sz cap:Nat):Prop where
  len:cs.length=cap*sz
  ad:q=some ⟨b,o,none⟩∨(q=none∧cap=0)
theorem GS.bB {q:Option Addr} {b o:Nat} {cs:List Value} (h:GS q b o cs sz cap) (hc:0<cap):q=some ⟨b,o,none⟩:=by
  rcases h.ad with h'|⟨_,h'⟩
  · exact h'
  · omega
def Src (l r:List aV) (q:Option Addr) (news:List Value):Prop:=news=[]∨∃sg ∈ l++r,∃j,q=some ⟨sg.b,sg.o+j,none⟩∧(sg.cs.drop j).take news.length=news
theorem Src.eB {sg:aV} {q2:Option Addr} {news:List Value} (i j:Nat) (hs:nthS i l=some sg) (hq:q2=some ⟨sg.b,sg.o+j,none⟩) (hv:(sg.cs.drop j).take news.length=news):Src l r q2 news:=
  .inr ⟨sg,List.mem_append_left _ (fb _ _ _ hs),j,hq,hv⟩
theorem Src.ofR {sg:aV} {q2:Option Addr} {news:List Value} (i j:Nat) (hs:nthS i r=some sg) (hq:q2=some ⟨sg.b,sg.o+j,none⟩) (hv:(sg.cs.drop j).take news.length=news):Src l r q2 news:=
  .inr ⟨sg,List.mem_append_right _ (fb _ _ _ hs),j,hq,hv⟩
theorem Src.cells {q:Option Addr} {news:List Value} {a:Act} {w:World} (h:Src l r q news) (ha:At K ρ l r a w):news=[]∨∃ad,q=some ad∧∀j u,news[j]? =some u→w.cell? (ad.add j)=some u:=by
  rcases h with h|⟨sg,hm,j,hq,hv⟩
  · exact .inl h
  · refine .inr ⟨_,hq,fun i u hu=>?_⟩;have kQ:sg.tV w:=by
      rcases List.mem_append.1 hm with h|h
      · exact ha.st.hl sg h
      · exact ha.st.hr sg h
    have hi:i<news.length:=(List.getElem?_eq_some_iff.1 hu).1;have hc:sg.cs[j+i]? =some u:=by
      rw[←hv,List.getElem?_take,if_pos hi,List.getElem?_drop] at hu;exact hu
    rw[eM,Nat.add_assoc];exact kQ.1 _ _ hc
theorem uf:∀(vs cs:List Value) (j:Nat),j+vs.length≤cs.length→spl cs j vs=cs.take j++vs++cs.drop (j+vs.length)
  |[],cs,j,h=>by simp[spl]
  |v::vs,cs,j,h=>by
    simp only[List.length_cons] at h;simp only[spl,List.length_cons];rw[uf vs (cs.set j v) (j+1) Oz];rw[List.drop_set,if_pos Om,List.take_set];have e1:(cs.take (j+1)).set j v=cs.take j++[v]:=by
      rw[List.take_succ_eq_append_getElem Om,List.set_append_right _ _ Oz];have:j-(List.take j cs).length=0:=by simp;omega
      rw[this];rfl
    rw[e1,show j+1+vs.length=j+(vs.length+1) by omega];simp
theorem JK (vs cs:List Value) (j:Nat) (h:j+vs.length≤cs.length):(spl cs j vs).take (j+vs.length)=cs.take j++vs:=by
  rw[uf vs cs j h,List.take_append_of_le_length Oz,List.take_of_length_le Oz]
theorem lU:∀(i:Nat) (s t:aV) (l:List aV),nthS i l=some t→(setS i s l).Perm (s::l.eraseIdx i)
  |_,_,_,[],h=>by simp[nthS] at h
  |0,s,t,u::l,h=>by simp[setS]
  |i+1,s,t,u::l,h=>by
    simp only[setS,List.eraseIdx_cons_succ];exact((lU i s t l (by simpa [nthS] using h)).cons u).trans (.swap _ _ _)
theorem JL {ca:Call} {q q2:Option Addr} {b o' c2 e qs:Nat} {cs zs news:List Value} {sh:Option (TypeId × Nat)} (i:Nat) (ho:o.op=.call ca) (hc:ca.callee=.builtin .append) (jj:evs ρ ca.args.toList=some [.slice q n cap,.slice q2 m c2]) (oB:ca.argTypes= #[t,t]) (hP:fe P t=some (e,zs,sz,qs)) (hz:zs.length=sz)
    (hs:nthS i l=some ⟨b,o',cs,sh⟩) (hg:GS q b o' cs sz cap) (qt:Src l r q2 news) (hn:n≤cap∧0<sz∧(n+m)*qs≤140737488355328∧n+m≤9223372036854775807) (hlen:news.length=m*sz) (h1:(news.all fun u=>u.oneCell')=true) (hd:o.dst=some d) (uQ:Nat.blt d K.n=true):
    nN P K ρ l r o (fun ρ' l'=>∃q' b' o' lb lR,GS q' b' o' lb sz lR∧n+m≤lR∧lb.take ((n+m)*sz)=cs.take (n*sz)++news∧ρ'=(d,.slice q' (n+m) lR)::ρ∧l'=setS i ⟨b',o',lb,none⟩ l):=by
  intro a w ha nx Q pY;obtain⟨Dv,h0,hby,h63⟩:=hn;obtain⟨i',zv,hu,hi,ue,su,Bw,Qd⟩:=jQ hP;have wq:∀w,(sizeOf e).run P w=.ok sz w:=dj (by simp[cL,hi,Bw]);have nS:=nY ha.fr jj;have UC:∀u ∈ news,u.oneCell'=true:=fun u hu=>List.all_eq_true.1 h1 u hu
  have uW:∀(u:Value) (w':World),(Builtin.append_ #[t,t] o.type #[.slice q n cap,.slice q2 m c2]).run P w=.ok u w'→(execOp a.eval o).run P w=.ok (.value u) w':=fun u w' h=>by
    simp[execOp,ho,resolve,hc,nS,invoke,builtin,oB,h]
  have SS:zv.cells.size=sz:=by rw[←hz, ←su];simp
  have UD:cs.length=cap*sz:=hg.len;unfold Oper.wp;by_cases na:n+m≤cap
  · -- within the room
    have hle:(n+m)*sz≤cap*sz:=Nat.mul_le_mul_right _ na;rw[Nat.add_mul] at hle;have fin:∀(w':World) (q':Option Addr),At K ρ (setS i ⟨b,o',spl cs (n*sz) news,none⟩ l) r a w'→q'=q→
        nx (a.put (some d) (.slice q' (n+m) cap)) w':=fun w' q' hA hq'=>by
      subst hq';refine pY _ _ ⟨_,_,⟨q',b,o',spl cs (n*sz) news,cap,⟨by rw[nV];exact UD,hg.ad⟩,na,?_,rfl,rfl⟩,hA.put uQ _⟩;rw[Nat.add_mul, ←hlen];exact JK _ _ _ Om
    have UE:∀w',At K ρ (setS i ⟨b,o',spl cs (n*sz) news,sh⟩ l) r a w'→At K ρ (setS i ⟨b,o',spl cs (n*sz) news,none⟩ l) r a w':=fun w' hA=>by
      exact((hA.perm (lU i _ _ l hs)).ss).perm (lU i _ _ l hs).symm
    rcases qt.cells ha with z7|⟨ad,UF,nZ⟩
    · -- nothing is appended
      subst z7;have hm:m=0:=by
        rcases Nat.mul_eq_zero.1 (show m*sz=0 by simpa using hlen.symm) with h|h
        · exact h
        · omega
      subst hm;have JM:(Builtin.firstCells sz 0 (.slice q2 0 c2)).run P w=.ok #[] w:=by
        cases q2<;>simp[Builtin.firstCells,loadCells,loadCellsFrom]
      have hr:(Builtin.append_ #[t,t] o.type #[.slice q n cap,.slice q2 0 c2]).run P w=.ok (.slice q (n+0) cap) w:=by
        cases q<;>simp[Builtin.append_,bA hu,wq,Builtin.lenOf,na,Dv,JM,storeCells]
      rw[uW _ _ hr];simp only[Oper.upon,hd];refine fin w q (UE w ?_) rfl;have:(⟨b,o',spl cs (n*sz) [],sh⟩:aV)=⟨b,o',cs,sh⟩:=rfl;rw[this,ku i _ l hs];exact ha
    · by_cases SU:m=0
      · subst SU;simp at hlen;subst hlen;have JM:(Builtin.firstCells sz 0 (.slice q2 0 c2)).run P w=.ok #[] w:=by
          cases q2<;>simp[Builtin.firstCells,loadCells,loadCellsFrom]
        have hr:(Builtin.append_ #[t,t] o.type #[.slice q n cap,.slice q2 0 c2]).run P w=.ok (.slice q (n+0) cap) w:=by
          cases q<;>simp[Builtin.append_,bA hu,wq,Builtin.lenOf,na,Dv,JM,storeCells]
        rw[uW _ _ hr];simp only[Oper.upon,hd];refine fin w q (UE w ?_) rfl;have:(⟨b,o',spl cs (n*sz) [],sh⟩:aV)=⟨b,o',cs,sh⟩:=rfl;rw[this,ku i _ l hs];exact ha
      · have hq:q=some ⟨b,o',none⟩:=hg.bB Om;subst hq;subst UF;have JM:=run_firstCells_some (P:=P) w sz m ad m c2 news hlen nZ;obtain⟨w',SV,hA⟩:=ie (P:=P) news 0 (n*sz) l w ⟨b,o',cs,sh⟩ i b (o'+n*sz) ha hs rfl Oi Oz UC;have hr:(Builtin.append_ #[t,t] o.type #[.slice (some ⟨b,o',none⟩) n cap,.slice (some ad) m c2]).run P w=.ok (.slice (some ⟨b,o',none⟩) (n+m) cap) w':=by
          simp[Builtin.append_,bA hu,wq,Builtin.lenOf,na,JM,eM,SV]
        rw[uW _ _ hr];simp only[Oper.upon,hd];exact fin w' _ (UE w' hA) rfl
  · -- it grows
    have SU:0<m:=Om;have ac0:news≠[]:=by
      intro e;subst e;rcases Nat.mul_eq_zero.1 (show m*sz=0 by simpa using hlen.symm) with h|h<;>omega
    rcases qt.cells ha with z7|⟨ad,UF,nZ⟩
    · exact(ac0 z7).elim
    subst UF;have akn:Builtin.nextslicecap (n+m) cap*i'.bytes≤281474976710656:=growslice_fits Om (by rw[Qd];exact hby);have fin:∀(C:Nat) (Dw rest:List Value),n+m≤C→Dw=cs.take (n*sz)→rest.length=(C-(n+m))*sz→
        nx (a.put (some d) (.slice (some ⟨w.heap.size,0,none⟩) (n+m) C)) (w.drew.alloc (.cells (Dw.toArray++news.toArray++rest.toArray) e)):=fun C Dw rest hC ho' hr=>by
      have hA:=((ha.drew.alloc (Dw.toArray++news.toArray++rest.toArray) e).ss).UB hs;have hol:Dw.length=n*sz:=by
        have:n*sz≤cap*sz:=Nat.mul_le_mul_right _ Dv;rw[ho',List.length_take];omega
      have hCC:C*sz=(n+m)*sz+(C-(n+m))*sz:=by rw[←Nat.add_mul];congr 1;omega
      refine pY _ _ ⟨_,_,⟨some ⟨w.heap.size,0,none⟩,w.heap.size,0,(Dw.toArray++news.toArray++rest.toArray).toList,C,⟨?_,.inl rfl⟩,hC,?_,rfl,rfl⟩,hA.put uQ _⟩
      · simp only[Array.toList_append,List.length_append,hol,hlen,hr,hCC];rw[Nat.add_mul]
      · have h2:(n+m)*sz=(Dw++news).length:=by simp[hol,hlen,Nat.add_mul]
        simp only[Array.toList_append];rw[h2,List.take_left',ho']
        · simp[ho']
    have zR:=grownCap_ge w (n+m) cap e;have Dx:∀N,(Builtin.zeroCells zv.cells N).toList.length=N*sz:=fun N=>by simp[Builtin.zeroCells,SS]
    rcases hg.ad with hq|⟨hq,Bx⟩
    · subst hq;have Fv:∀j u,(cs.take (n*sz))[j]? =some u→w.cell? ((⟨b,o',none⟩:Addr).add j)=some u:=fun j u hj=>by
        rw[eM];have kQ:=ha.st.hl _ (fb _ _ _ hs);rw[List.getElem?_take] at hj;split at hj
        · exact kQ.1 _ _ hj
        · cases hj
      have hr:=run_append_grow (P:=P) w t o.type e i' zv hu hi ue ⟨b,o',none⟩ n cap (cs.take (n*sz)) (by
        have:n*sz≤cap*sz:=Nat.mul_le_mul_right _ Dv;rw[List.length_take,Bw];omega) Fv ad m c2 news (by rw[Bw];exact hlen) nZ Om Om akn
      rw[uW _ _ hr];simp only[Oper.upon,hd];have:=fin (grownCap w (n+m) cap e) _ (Builtin.zeroCells zv.cells (grownCap w (n+m) cap e-(n+m))).toList zR rfl (Dx _);simpa using this
    · subst hq;subst Bx;obtain rfl:n=0:=Om;have hr:=run_append_nil (P:=P) w t o.type e i' zv hu hi ue ad m c2 news (by rw[Bw];exact hlen) nZ Om Om (by
        rw[Qd];rw[Nat.zero_add] at hby;omega)
      rw[uW _ _ hr];simp only[Oper.upon,hd];have:=fin (grownCap w m 0 e) [] (Builtin.zeroCells zv.cells (grownCap w m 0 e-m)).toList (by simpa using zR) Oi (by simpa using Dx _);simpa using this
theorem SW {ca:Call} {q2:Option Addr} {sl sc dl dc e qs:Nat} {zs news:List Value} {sg:aV} (i j:Nat) (ho:o.op=.call ca) (hc:ca.callee=.builtin .copy) (jj:evs ρ ca.args.toList=some [.slice (some ⟨sg.b,q,none⟩) dl dc,.slice q2 sl sc]) (oB:ca.argTypes= #[t,t]) (hP:fe P t=some (e,zs,sz,qs))
    (hs:nthS i l=some sg) (hq:q=sg.o+j) (qt:Src l r q2 news) (hlen:news.length=min sl dl*sz) (hj:j+news.length≤sg.cs.length) (h1:(news.all fun u=>u.oneCell')=true) (hd:o.dst=some d) (uQ:Nat.blt d K.n=true):
    nN P K ρ l r o (fun ρ' l'=>ρ'=(d,.int .i64 ((min sl dl:Nat):Int))::ρ∧l'=setS i ⟨sg.b,sg.o,spl sg.cs j news,sg.sh⟩ l):=by
  intro a w ha nx Q pY;obtain⟨N,hN⟩:∃N,N=min sl dl:=⟨_,rfl⟩;rw[←hN] at hlen pY;obtain⟨i',zv,hu,hi,ue,su,Bw,Qd⟩:=jQ hP;have wq:∀w,(sizeOf e).run P w=.ok sz w:=dj (by simp[cL,hi,Bw]);have nS:=nY ha.fr jj;have UC:∀u ∈ news,u.oneCell'=true:=fun u hu=>List.all_eq_true.1 h1 u hu
  subst hq;have JM:(Builtin.firstCells sz N (.slice q2 sl sc)).run P w=.ok news.toArray w:=by
    rcases qt.cells ha with z7|⟨ad,UF,nZ⟩
    · subst z7;simp at hlen;cases q2 with
      |none=>simp[Builtin.firstCells]
      |some ad=>simp[Builtin.firstCells,loadCells, ←hlen,loadCellsFrom]
    · subst UF;exact run_firstCells_some (P:=P) w sz _ ad sl sc news hlen nZ
  obtain⟨w',SV,hA⟩:=ie (P:=P) news 0 j l w sg i sg.b (sg.o+j) ha hs rfl Oi hj UC;unfold Oper.wp;have hr:(Builtin.copy_ #[t,t] o.type #[.slice (some ⟨sg.b,sg.o+j,none⟩) dl dc,.slice q2 sl sc]).run P w=.ok (.int .i64 ((N:Nat):Int)) w':=by
    have:Nat.min sl dl=N:=hN.symm;simp[Builtin.copy_,bA hu,wq,Builtin.lenOf,this,JM,SV,goInt]
  have e:(execOp a.eval o).run P w=.ok (.value (.int .i64 ((N:Nat):Int))) w':=by
    simp[execOp,ho,resolve,hc,nS,invoke,builtin,oB,hr]
  rw[e];simp only[Oper.upon,hd];exact pY _ _ ⟨_,_,⟨rfl,rfl⟩,hA.put uQ _⟩
theorem Qe {T:TypeId} {D:TypeDesc} (ho:o.op=.makeInterface T x) (hx:ev ρ x=some v) (hu:P.underlying T=some D) (hD:(match D with| .interface _=>true|_=>false)=false):bJ P ρ o (.iface T v):=fun ac ha w=>by
  have:(Instr.makeInterface T v).run P w=.ok (.iface T v) w:=by
    cases D<;>simp at hD<;>simp[Instr.makeInterface,bA hu]
  simp[execOp,ho,cq ha hx,this]
theorem JN {ca:Call} {X Y:Int} (ho:o.op=.call ca) (hc:ca.callee=.builtin .max) (hx:evs ρ ca.args.toList=some [.int k X,.int k' Y]):bJ P ρ o (.int k (max X Y)):=fun ac UA w=>by
  have:(if X<Y then Y else X)=max X Y:=by split<;>omega
  simp[execOp,ho,resolve,hc,nY UA hx,invoke,builtin,Builtin.max_,Builtin.max2,this]
theorem ac1 {ca:Call} {X Y:Int} (ho:o.op=.call ca) (hc:ca.callee=.builtin .min) (hx:evs ρ ca.args.toList=some [.int k X,.int k' Y]):bJ P ρ o (.int k (min X Y)):=fun ac UA w=>by
  have:(if Y<X then Y else X)=min X Y:=by split<;>omega
  simp[execOp,ho,resolve,hc,nY UA hx,invoke,builtin,Builtin.min_,Builtin.min2,this]
end
inductive Pl where
  |nil|stop
  |st (i:Nat) (k:Bool) (rest:Pl)
  |ef (i:Nat) (rest alt:Pl)
  |er (i:Nat) (rest alt:Pl)
def Pl.alts:Pl→List Nat
  | .ef i _ a=>i::a.alts
  | .er i _ a=>i::a.alts
  |_=>[]
def memB (j:Nat):List Nat→Bool
  |[]=>false
  |i::l=>Nat.beq i j||memB j l
theorem By {j:Nat}:∀{l:List Nat},memB j l=true→j ∈ l
  |[],h=>by simp[memB] at h
  |i::l,h=>by
    simp only[memB,Bool.or_eq_true] at h;rcases h with h|h
    · rw[Nat.eq_of_beq_eq_true h];exact List.mem_cons_self
    · exact List.mem_cons_of_mem _ (By h)
def Pl.len:Pl→Nat
  | .nil=>0
  | .stop=>0
  | .st _ _ r=>r.len+1
  | .ef _ r a=>max (r.len+1) a.len
  | .er _ r a=>max (r.len+1) a.len
mutual
def Pl.ok (n:Nat) (b:List Nat) (E:Nat):Pl→Nat→Bool
  | .nil,d=>Nat.beq d (Nat.pow 2 n-1)
  | .stop,_=>false
  | .st i k rest,d=>Nat.blt i n && !Nat.testBit d i && oU (nthN i b) d && (!Nat.testBit E i && (!k||allFrom (fun j=>Nat.testBit d j|| !Nat.testBit E j||Nat.testBit (nthN j b) i) 0 n)) && rest.ok n b E (Nat.lor d (Nat.pow 2 i))
  | .ef i rest alt,d=>allFrom (fun j=>Nat.testBit d j||memB j (i::alt.alts)|| !oU (nthN j b) d) 0 n && (Nat.blt i n && !Nat.testBit d i && oU (nthN i b) d && Nat.testBit E i && rest.ok n b E (Nat.lor d (Nat.pow 2 i))) && alt.oks n b E d
  | .er i rest alt,d=>allFrom (fun j=>Nat.testBit d j||memB j (i::alt.alts)|| !oU (nthN j b) d) 0 n && (Nat.blt i n && !Nat.testBit d i && oU (nthN i b) d && !Nat.testBit E i && rest.ok n b E (Nat.lor d (Nat.pow 2 i))) && alt.oks n b E d
def Pl.oks (n:Nat) (b:List Nat) (E:Nat):Pl→Nat→Bool
  | .stop,_=>true
  | .ef i rest alt,d=>(Nat.blt i n && !Nat.testBit d i && oU (nthN i b) d && Nat.testBit E i && rest.ok n b E (Nat.lor d (Nat.pow 2 i))) && alt.oks n b E d
  | .er i rest alt,d=>(Nat.blt i n && !Nat.testBit d i && oU (nthN i b) d && !Nat.testBit E i && rest.ok n b E (Nat.lor d (Nat.pow 2 i))) && alt.oks n b E d
  |_,_=>false
end
def FC (L:List Oper) (E:Nat) (pl:Pl):Bool:=
  Region.noSelect L.toArray && Nat.ble pl.len L.length && backB 0 L && iJ L.toArray (befs [] L) L 0 L && pl.ok L.length (befs [] L) E 0
section
variable {P:Program} {Q:Exit→Act→World→Prop}
def Dy (P:Program) (ops:Array Oper) (Q:Exit→Act→World→Prop):Pl→Act→World→Prop
  | .nil,a,w=>Q .normal a w
  | .stop,_,_=>True
  | .st i false rest,a,w=>∃o v,ops[i]? =some o∧Yields P ops o v a∧Dy P ops Q rest (a.put o.dst v) w
  | .st i true rest,a,w=>∃o v,ops[i]? =some o∧YieldsAt P ops w o v a∧Dy P ops Q rest (a.put o.dst v) w
  | .ef i rest alt,a,w=>wpOp P ops Q i (Dy P ops Q rest) a w∧Dy P ops Q alt a w
  | .er i rest alt,a,w=>stOp P ops w i (fun a'=>Dy P ops Q rest a' w) a∧Dy P ops Q alt a w
theorem z8 {L:List Oper} {E:Nat} {Q:Exit→Act→World→Prop} {a:Act} {w:World}:∀(pl:Pl) (d:Nat) (j:Nat),pl.oks L.length (befs [] L) E d=true→j ∈ pl.alts→Dy P L.toArray Q pl a w→
    ∃rest,(Nat.blt j L.length && !Nat.testBit d j && oU (nthN j (befs [] L)) d && rest.ok L.length (befs [] L) E (Nat.lor d (Nat.pow 2 j)))=true∧rest.len+1≤pl.len∧((Nat.testBit E j=true∧wpOp P L.toArray Q j (Dy P L.toArray Q rest) a w)∨(Nat.testBit E j=false∧stOp P L.toArray w j (fun a'=>Dy P L.toArray Q rest a' w) a))
  | .nil,d,j,h,hj,_=>by simp[Pl.oks] at h
  | .stop,d,j,h,hj,_=>by simp[Pl.alts] at hj
  | .st _ _ _,d,j,h,hj,_=>by simp[Pl.oks] at h
  | .ef i rest alt,d,j,h,hj,hw=>by
    simp only[Pl.oks] at h;rw[Bool.and_eq_true] at h;simp only[Pl.alts,List.mem_cons] at hj;by_cases e:j=i
    · subst e;have h1:=h.1;simp only[Bool.and_eq_true] at h1 ⊢;exact⟨rest,⟨⟨h1.1.1.1,h1.1.1.2⟩,h1.2⟩,by simp only[Pl.len];omega,.inl ⟨h1.1.2,hw.1⟩⟩
    · obtain⟨r,h1,h2,h3⟩:=z8 alt d j h.2 (hj.resolve_left e) hw.2;exact⟨r,h1,by simp only[Pl.len];omega,h3⟩
  | .er i rest alt,d,j,h,hj,hw=>by
    simp only[Pl.oks] at h;rw[Bool.and_eq_true] at h;simp only[Pl.alts,List.mem_cons] at hj;by_cases e:j=i
    · subst e;have h1:=h.1;simp only[Bool.and_eq_true] at h1 ⊢;exact⟨rest,⟨⟨h1.1.1.1,h1.1.1.2⟩,h1.2⟩,by simp only[Pl.len];omega,.inr ⟨by simpa using h1.1.2,hw.1⟩⟩
    · obtain⟨r,h1,h2,h3⟩:=z8 alt d j h.2 (hj.resolve_left e) hw.2;exact⟨r,h1,by simp only[Pl.len];omega,h3⟩
theorem SX {L:List Oper} {d i:Nat} {listed:Array Bool} (oz:backB 0 L=true) (vt:iJ L.toArray (befs [] L) L 0 L=true) (hl:O8 L d listed) (eU:i<L.length) (ua:d.testBit i=false) (oN:oU (nthN i (befs [] L)) d=true):
    i ∈ Region.ready .any L.toArray listed∧NB .any L.toArray listed i L[i] (fun j=>j=i∨(nthN j (befs [] L)).testBit i=true):=by
  have PH:L[i]? =some L[i]:=by simp[eU]
  have Ih:L.toArray[i]? =some L[i]:=by simpa using PH
  have dir:∀e ∈ L[i].after,Region.binds .any e=true→listed.getD e.on false=true:=fun e he hb=>by
    have h1:=rb L 0 oz i _ PH e he hb;rw[Nat.zero_add] at h1;have h2:=ks oN (wb PH he hb h1);have h3:=hl.at_ e.on Om;rw[h2] at h3;have:e.on<listed.size:=by rw[hl.size];omega
    simpa [this] using h3
  have mM:i ∈ Region.ready .any L.toArray listed:=mem_ready.2 ⟨by rw[hl.at_ i eU];exact ua,_,Ih,dir⟩;have SL:L.toArray.size=L.length:=Oi;have nb:NB .any L.toArray listed i L[i] (fun j=>j=i∨(nthN j (befs [] L)).testBit i=true):=by
    refine⟨fun j hj hb=>?_,fun j oj hj hb rT=>?_,fun j oj hj r' hb=>?_⟩
    · rw[SL] at hj;rw[hl.at_ j hj];rcases hb with rfl|hb
      · exact ua
      · cases hd:d.testBit j with
        |false=>rfl
        |true=>rw[ks (hl.closed j hj hd) hb] at ua;cases ua
    · have yM:L[j]? =some oj:=by simpa using hj
      rcases hb with rfl|hb
      · exact(rT rfl).elim
      · obtain⟨e,he,hbi,hle,Ur⟩:=tZ yM hb;have:j<L.length:=by
          rcases Nat.lt_or_ge j L.length with h'|h'
          · exact h'
          · simp[List.getElem?_eq_none h'] at yM
        exact⟨e,he,hbi,Ur,by rw[SL];omega⟩
    · have yM:L[j]? =some oj:=by simpa using hj
      have O7:j<L.length:=by
        rcases Nat.lt_or_ge j L.length with h'|h'
        · exact h'
        · simp[List.getElem?_eq_none h'] at yM
      have h1:=mL L 0 vt i _ PH;rw[Nat.zero_add] at h1;have h2:=oV L 0 h1 j oj yM;simp only[Nat.zero_add] at h2;rcases h2 with h2|h2|h2|h2
      · exact(hb (.inr h2)).elim
      · rw[hl.at_ j O7,ks oN h2] at r';cases r'
      · exact(hb (.inl h2)).elim
      · exact h2
  exact⟨mM,nb⟩
theorem uX {L:List Oper} {E:Nat} (oz:backB 0 L=true) (vt:iJ L.toArray (befs [] L) L 0 L=true) {fuel:Nat} {pl:Pl} {d i:Nat} {listed:Array Bool} {a:Act} {w:World} (hm:i ∈ pl.alts)
    (ih:∀(pl:Pl) (d:Nat) (listed:Array Bool) (a:Act) (w:World),pl.ok L.length (befs [] L) E d=true→O8 L d listed→pl.len≤fuel→Dy P L.toArray Q pl a w→Bm P .any L.toArray (fun j=>Nat.testBit E j) Q fuel listed a w)
    (tY:allFrom (fun j=>Nat.testBit d j||memB j pl.alts|| !oU (nthN j (befs [] L)) d) 0 L.length=true) (ako:pl.oks L.length (befs [] L) E d=true) (hl:O8 L d listed) (hf:pl.len≤fuel+1) (h:Dy P L.toArray Q pl a w):
    Bm P .any L.toArray (fun j=>Nat.testBit E j) Q (fuel+1) listed a w:=by
  have step:∀j ∈ pl.alts,j ∈ Region.ready .any L.toArray listed∧((Nat.testBit E j=true∧wpOp P L.toArray Q j (Bm P .any L.toArray (fun j=>Nat.testBit E j) Q fuel (listed.setIfInBounds j true)) a w)∨(Nat.testBit E j=false∧stOp P L.toArray w j (fun a'=>Bm P .any L.toArray (fun j=>Nat.testBit E j) Q fuel (listed.setIfInBounds j true) a' w) a)):=by
    intro j hj;obtain⟨rj,h1,h2,h3⟩:=z8 _ d j ako hj h;simp only[Bool.and_eq_true] at h1;obtain⟨⟨⟨Bp,uQ⟩,oN⟩,hrj⟩:=h1;have eU:j<L.length:=Nat.le_of_ble_eq_true Bp;have ua:d.testBit j=false:=by simpa using uQ
    obtain⟨mM,nb⟩:=SX oz vt hl eU ua oN;refine⟨mM,?_⟩;rcases h3 with ⟨h4,h5⟩|⟨h4,h5⟩
    · exact .inl ⟨h4,wpOp_mono (fun a' w' h'=>ih rj _ _ a' w' hrj (hl.put eU oN) Om h') h5⟩
    · exact .inr ⟨h4,stOp_mono (fun a' h'=>ih rj _ _ a' w hrj (hl.put eU oN) Om h') h5⟩
  refine⟨fun h0=>?_,fun j hj=>?_⟩
  · have:=(step i hm).1;rw[h0] at this;cases this
  · have hm:j ∈ pl.alts:=by
      obtain⟨r',oj,zS,akp⟩:=mem_ready.1 hj;have O7:j<L.length:=by simpa using (Array.getElem?_eq_some_iff.1 zS).1
      have h1:=jL _ _ tY j Om Om;rw[hl.at_ j O7] at r';simp only[r',Bool.false_or] at h1;rw[Bool.or_eq_true] at h1;rcases h1 with h1|h1
      · exact By h1
      · exfalso
        -- all that j waits for is done
        have akq:L[j]? =some oj:=by simpa using zS
        have:oU (nthN j (befs [] L)) d=true:=by
          show Nat.beq (nthN j (befs [] L)&&&d) (nthN j (befs [] L))=true;have e:nthN j (befs [] L)&&&d=nthN j (befs [] L):=by
            apply Nat.eq_of_testBit_eq;intro k;rw[Nat.testBit_and];cases hk:(nthN j (befs [] L)).testBit k with
            |false=>rfl
            |true=>
              obtain⟨e,he,hb,eU,Ur⟩:=tZ akq hk;have hd:=akp e he hb;have SY:d.testBit e.on=true:=by
                have h3:=hl.at_ e.on Om;have:e.on<listed.size:=by rw[hl.size];omega
                rw[←h3];simpa [this] using hd
              rcases Ur with h4|h4
              · subst h4;simp[SY]
              · have:=hl.closed e.on Om SY;rw[ks this h4];rfl
          rw[e];exact Nat.beq_refl _
        rw[this] at h1;cases h1
    obtain⟨h1,h2⟩:=step j hm;rcases h2 with ⟨h2,h3⟩|⟨h2,h3⟩
    · rw[if_pos h2];exact h3
    · rw[if_neg (show¬E.testBit j=true by rw[h2];simp)];exact h3
theorem Dz {L:List Oper} {E:Nat} (oS:Region.noSelect L.toArray=true) (oz:backB 0 L=true) (vt:iJ L.toArray (befs [] L) L 0 L=true)
    (hQ:∀c a w (d:Nat) v,Q (.panic c) (a.put (some d) v) w→Q (.panic c) a w):
    ∀(fuel:Nat) (pl:Pl) (d:Nat) (listed:Array Bool) (a:Act) (w:World),pl.ok L.length (befs [] L) E d=true→O8 L d listed→pl.len≤fuel→Dy P L.toArray Q pl a w→
      Bm P .any L.toArray (fun j=>Nat.testBit E j) Q fuel listed a w:=by
  intro fuel;have SL:L.toArray.size=L.length:=Oi;induction fuel with
  |zero=>
    intro pl d listed a w hs hl hf h;cases pl with
    |nil=>
      refine v8 ?_ h 0;have hd:d=2^L.length-1:=Nat.eq_of_beq_eq_true hs;apply List.eq_nil_iff_forall_not_mem.2;intro j hj;obtain⟨r',o,ho,_⟩:=mem_ready.1 hj;have eU:j<L.length:=by simpa using (Array.getElem?_eq_some_iff.1 ho).1
      rw[hl.at_ j eU,hd,Nat.testBit_two_pow_sub_one] at r';simp[eU] at r'
    |stop=>simp[Pl.ok] at hs
    |st i k rest=>simp[Pl.len] at hf
    |ef i rest alt=>simp only[Pl.len] at hf;omega
    |er i rest alt=>simp only[Pl.len] at hf;omega
  |succ fuel ih=>
    intro pl d listed a w hs hl hf h;cases pl with
    |nil=>
      refine v8 ?_ h (fuel+1);have hd:d=2^L.length-1:=Nat.eq_of_beq_eq_true hs;apply List.eq_nil_iff_forall_not_mem.2;intro j hj;obtain⟨r',o,ho,_⟩:=mem_ready.1 hj;have eU:j<L.length:=by simpa using (Array.getElem?_eq_some_iff.1 ho).1
      rw[hl.at_ j eU,hd,Nat.testBit_two_pow_sub_one] at r';simp[eU] at r'
    |stop=>simp[Pl.ok] at hs
    |st i k rest=>
      simp only[Pl.ok,Bool.and_eq_true] at hs;obtain⟨⟨⟨⟨Bp,uQ⟩,oN⟩,hE',hk⟩,sd⟩:=hs;have eU:i<L.length:=Nat.le_of_ble_eq_true Bp;have ua:d.testBit i=false:=by simpa using uQ
      have hE:Nat.testBit E i=false:=by simpa using hE'
      have Ih:L.toArray[i]? =some L[i]:=by simp[eU]
      obtain⟨mM,nb⟩:=SX oz vt hl eU ua oN;have GV:=hl.put eU oN;simp only[Pl.len] at hf;cases k with
      |false=>
        obtain⟨o,v,ho,hy,hw⟩:=h;have:o=L[i]:=Option.some.inj (ho.symm.trans Ih);subst this;refine Bo Ih (Region.noSelect_spec oS) hE ?_ fuel listed a w nb mM hy (ih rest _ _ _ w sd GV Om hw);intro c a w hq;cases hd:L[i].dst with
        |none=>rw[hd] at hq;exact hq
        |some d'=>rw[hd] at hq;exact hQ c a w d' v hq
      |true=>
        obtain⟨o,v,ho,hy,hw⟩:=h;have:o=L[i]:=Option.some.inj (ho.symm.trans Ih);subst this;refine Bn Ih (Region.noSelect_spec oS) hE (.inl rfl) fuel listed a w nb ?_ mM hy (ih rest _ _ _ w sd GV Om hw);intro j hj r' hEj;rw[SL] at hj;have h1:=jL _ _ (by simpa using hk) j Om Om;rw[hl.at_ j hj] at r';simp only[r',hEj,Bool.not_true,Bool.false_or] at h1;exact .inr h1
    |ef i rest alt=>
      simp only[Pl.ok] at hs;rw[Bool.and_eq_true,Bool.and_eq_true] at hs;obtain⟨⟨tY,hi⟩,halt⟩:=hs;exact uX oz vt (pl:=.ef i rest alt) List.mem_cons_self ih tY (by simp only[Pl.oks];rw[Bool.and_eq_true];exact⟨hi,halt⟩) hl hf h
    |er i rest alt=>
      simp only[Pl.ok] at hs;rw[Bool.and_eq_true,Bool.and_eq_true] at hs;obtain⟨⟨tY,hi⟩,halt⟩:=hs;exact uX oz vt (pl:=.er i rest alt) List.mem_cons_self ih tY (by simp only[Pl.oks];rw[Bool.and_eq_true];exact⟨hi,halt⟩) hl hf h
theorem DA {L:List Oper} {id:Nat} (E:Nat) (pl:Pl) (hm:P.follows .mixedOrders=true) (hB:FC L E pl=true)
    (hQ:∀c a w (d:Nat) v,Q (.panic c) (a.put (some d) v) w→Q (.panic c) a w) {a:Act} {w:World} (h:Dy P L.toArray Q pl a w.drew):(Code.region id L.toArray true).wp P Q a w:=by
  simp only[FC,Bool.and_eq_true] at hB;obtain⟨⟨⟨⟨h1,h0⟩,h2⟩,h3⟩,h4⟩:=hB;have IS:pl.len≤L.length:=Nat.le_of_ble_eq_true h0;refine uR (E:=fun j=>Nat.testBit E j) hm ?_;have hl:O8 L 0 (Array.replicate L.toArray.size false):=⟨Oi,fun j hj=>by simp[hj],fun j hj hd=>by simp at hd⟩;exact Dz (P:=P) h1 h2 h3 hQ L.toArray.size pl 0 _ a w.drew h4 hl (by simpa using IS) h
end
section
variable {P:Program} {K:Kx} {Q:Exit→Act→World→Prop} {ρ:bx} {l r:List aV} {L:List Oper} {o:Oper} {d i:Nat} {v:Value} {os alt:Pl}
def GT (P:Program) (K:Kx) (Q:Exit→Act→World→Prop) (L:List Oper) (pl:Pl) (ρ:bx) (l r:List aV):Prop:=∀a w,At K ρ l r a w→Dy P L.toArray Q pl a w
theorem G.tree {id:Nat} {L:List Oper} (E:Nat) (pl:Pl) (hm:P.follows .mixedOrders=true) (hB:FC L E pl=true) (hQ:∀c a w (d:Nat) v,Q (.panic c) (a.put (some d) v) w→Q (.panic c) a w) (h:GT P K Q L pl ρ l r):G P K Q (.region id L.toArray true) ρ l r:=
  fun a w ha=>DA E pl hm hB hQ (h a w.drew ha.drew)
theorem GT.y (h:bJ P ρ o v) (hi:nth i L=some o) (hw:want L ρ o=some true) (hd:o.dst=some d) (hn:Nat.blt d K.n=true) (k:GT P K Q L os ((d,v)::ρ) l r):GT P K Q L (.st i false os) ρ l r:=
  fun a w ha=>⟨o,v,jK hi,.inl ⟨iz hw ha.fr,fun w'=>h a ha.fr w'⟩,by rw[hd];exact k _ _ (ha.put hn v)⟩
theorem GT.rd (h:rU P ρ l r o v) (hi:nth i L=some o) (hw:want L ρ o=some true) (hd:o.dst=some d) (hn:Nat.blt d K.n=true) (k:GT P K Q L os ((d,v)::ρ) l r):GT P K Q L (.st i true os) ρ l r:=
  fun a w ha=>⟨o,v,jK hi,.inl ⟨iz hw ha.fr,.inl (h a w ha.fr ha.st)⟩,by rw[hd];exact k _ _ (ha.put hn v)⟩
theorem GT.skip (hi:nth i L=some o) (hw:want L ρ o=some false) (hd:o.dst=some d) (hn:Nat.blt d K.n=true) (k:GT P K Q L os ((d,undef)::ρ) l r):GT P K Q L (.st i false os) ρ l r:=
  fun a w ha=>⟨o,undef,jK hi,.inr ⟨iz hw ha.fr,rfl⟩,by rw[hd];exact k _ _ (ha.put hn undef)⟩
theorem GT.bV {N:bx→List aV→Prop} (h:nN P K ρ l r o N) (hi:nth i L=some o) (hw:want L ρ o=some true) (k:∀ρ' l',N ρ' l'→GT P K Q L os ρ' l' r) (ha:GT P K Q L alt ρ l r):GT P K Q L (.ef i os alt) ρ l r:=by
  intro a w hA;refine⟨?_,ha a w hA⟩;show wpOp P L.toArray Q i (Dy P L.toArray Q os) a w;unfold wpOp;rw[jK hi];simp only[];rw[if_pos (iz hw hA.fr)];left;exact h a w hA _ _ fun a' w' ⟨ρ',l',hN,hA'⟩=>k ρ' l' hN a' w' hA'
theorem GT.erd (h:rU P ρ l r o v) (hi:nth i L=some o) (hw:want L ρ o=some true) (hd:o.dst=some d) (hn:Nat.blt d K.n=true) (k:GT P K Q L os ((d,v)::ρ) l r) (ha:GT P K Q L alt ρ l r):GT P K Q L (.ef i os alt) ρ l r:=by
  refine GT.bV (N:=fun ρ' l'=>ρ'=(d,v)::ρ∧l'=l) ?_ hi hw (fun ρ' l' ⟨h1,h2⟩=>by subst h1;subst h2;exact k) ha;intro a w hA nx Q pY;unfold Oper.wp;rw[h a w hA.fr hA.st];simp only[Oper.upon,hd];exact pY _ _ ⟨_,_,⟨rfl,rfl⟩,hA.put hn v⟩
theorem GT.er (h:rU P ρ l r o v) (hi:nth i L=some o) (hw:want L ρ o=some true) (hd:o.dst=some d) (hn:Nat.blt d K.n=true) (k:GT P K Q L os ((d,v)::ρ) l r) (ha:GT P K Q L alt ρ l r):GT P K Q L (.er i os alt) ρ l r:=
  fun a w hA=>⟨(show YieldsAt P L.toArray w o v a from .inl ⟨iz hw hA.fr,.inl (h a w hA.fr hA.st)⟩).stOp (jK hi) (by rw[hd];exact k _ _ (hA.put hn v)),ha a w hA⟩
theorem GT.stop:GT P K Q L .stop ρ l r:=fun _ _ _=>trivial
theorem GT.nil (h:GQ K Q .normal ρ l r):GT P K Q L .nil ρ l r:=fun a w ha=>h a w ha
end
section
variable {P:Program} {K:Kx} {Q:Exit→Act→World→Prop} {ρ:bx} {l r:List aV} {o:Oper} {v:Value} {x y z:Operand} {t s f sz n m c lo hi len cap b q j d:Nat} {k k':IntKind}
theorem Bz (xs ys:List Nat):ae k (xs++ys)=ae k xs++ae k ys:=by simp[ae]
theorem BA (xs ys:List Int):ints k (xs++ys)=ints k xs++ints k ys:=by simp[ints]
theorem JO (n x:Nat):List.replicate n (.int k ((x:Nat):Int))=ae k (List.replicate n x):=by simp[ae]
theorem sw (xs:List Nat):((ae k xs).all fun u=>u.oneCell')=true:=by
  simp[ae,Value.oneCell']
theorem JP (xs:List Int):((ints k xs).all fun u=>u.oneCell')=true:=by
  simp[ints,Value.oneCell']
theorem fx (xs:List Nat) (j m:Nat):((ae k xs).drop j).take (ae k ((xs.drop j).take m)).length=ae k ((xs.drop j).take m):=by
  simp[ae,List.map_take,List.map_drop,List.take_take]
theorem sx {cs:List Value} {xs:List Nat} (h:cs.take n=ae k xs) (hj:j<n∧j<xs.length):cs[j]? =some (.int k ((xs.getD j 0:Nat):Int)):=by
  rw[←af hj.2, ←h,List.getElem?_take,if_pos hj.1]
theorem DB {xs:List Nat} (h:j<xs.length):((ae k xs).drop j).take 1=[.int k ((xs.getD j 0:Nat):Int)]:=by
  have:(ae k xs).drop j=.int k ((xs.getD j 0:Nat):Int)::(ae k xs).drop (j+1):=by
    rw[List.drop_eq_getElem_cons (by simpa using h)];congr 1;have:=af (k:=k) h;simpa [h] using this
  rw[this];rfl
theorem bg {ca:Call} {q q2:Option Addr} {b o' c2 e qs:Nat} {cs zs:List Value} {xs ys:List Nat} {sh:Option (TypeId × Nat)} (i:Nat) (ho:o.op=.call ca) (hc:ca.callee=.builtin .append) (jj:evs ρ ca.args.toList=some [.slice q n cap,.slice q2 m c2]) (oB:ca.argTypes= #[t,t]) (hP:fe P t=some (e,zs,1,qs)) (hz:zs.length=1)
    (hs:nthS i l=some ⟨b,o',cs,sh⟩) (hg:GS q b o' cs 1 cap) (hp:cs.take n=ae k xs) (qt:Src l r q2 (ae k ys)) (hn:n≤cap∧(n+m)*qs≤140737488355328∧n+m≤9223372036854775807∧ys.length=m) (hd:o.dst=some d) (uQ:Nat.blt d K.n=true):
    nN P K ρ l r o (fun ρ' l'=>∃q' b' o' lb lR,GS q' b' o' lb 1 lR∧n+m≤lR∧lb.take (n+m)=ae k (xs++ys)∧ρ'=(d,.slice q' (n+m) lR)::ρ∧l'=setS i ⟨b',o',lb,none⟩ l):=by
  intro a w ha nx Q pY;refine JL (K:=K) i ho hc jj oB hP hz hs hg qt ⟨hn.1,Om,hn.2.1,hn.2.2.1⟩ (by simp[hn.2.2.2]) (sw _) hd uQ a w ha nx Q fun a' w' ⟨ρ',l',⟨q',b',o'',lb,lR,h1,h2,h3,h4,h5⟩,h6⟩=>pY a' w' ⟨ρ',l',⟨q',b',o'',lb,lR,h1,h2,?_,h4,h5⟩,h6⟩
  rw[Nat.mul_one,Nat.mul_one,hp] at h3;rw[h3,Bz]
theorem JQ {ca:Call} {q q2:Option Addr} {b o' c2 e qs:Nat} {cs zs:List Value} {xs ys:List Int} {sh:Option (TypeId × Nat)} (i:Nat) (ho:o.op=.call ca) (hc:ca.callee=.builtin .append) (jj:evs ρ ca.args.toList=some [.slice q n cap,.slice q2 m c2]) (oB:ca.argTypes= #[t,t]) (hP:fe P t=some (e,zs,1,qs)) (hz:zs.length=1)
    (hs:nthS i l=some ⟨b,o',cs,sh⟩) (hg:GS q b o' cs 1 cap) (hp:cs.take n=ints k xs) (qt:Src l r q2 (ints k ys)) (hn:n≤cap∧(n+m)*qs≤140737488355328∧n+m≤9223372036854775807∧ys.length=m) (hd:o.dst=some d) (uQ:Nat.blt d K.n=true):
    nN P K ρ l r o (fun ρ' l'=>∃q' b' o' lb lR,GS q' b' o' lb 1 lR∧n+m≤lR∧lb.take (n+m)=ints k (xs++ys)∧ρ'=(d,.slice q' (n+m) lR)::ρ∧l'=setS i ⟨b',o',lb,none⟩ l):=by
  intro a w ha nx Q pY;refine JL (K:=K) i ho hc jj oB hP hz hs hg qt ⟨hn.1,Om,hn.2.1,hn.2.2.1⟩ (by simp[hn.2.2.2]) (JP _) hd uQ a w ha nx Q fun a' w' ⟨ρ',l',⟨q',b',o'',lb,lR,h1,h2,h3,h4,h5⟩,h6⟩=>pY a' w' ⟨ρ',l',⟨q',b',o'',lb,lR,h1,h2,?_,h4,h5⟩,h6⟩
  rw[Nat.mul_one,Nat.mul_one,hp] at h3;rw[h3,BA]
theorem km {kl kc:IntKind} {e qs:Nat} (ho:o.op=.makeSlice t x y) (hx:ev ρ x=some (.int kl ((m:Nat):Int))) (hy:ev ρ y=some (.int kc ((c:Nat):Int))) (hP:fe P t=some (e,[.int k ((0:Nat):Int)],1,qs)) (h:m≤c∧qs*c≤281474976710656∧c≤9223372036854775807) (hd:o.dst=some d) (hn:Nat.blt d K.n=true):
    nN P K ρ l r o (fun ρ' l'=>∃b,ρ'=(d,.slice (some ⟨b,0,none⟩) m c)::ρ∧l'=⟨b,0,ae k (List.replicate c 0),none⟩::l):=by
  have:=akm (K:=K) (l:=l) (r:=r) ho hx hy hP h hd hn;rwa [JO] at this
theorem cp {e:Nat} {zs vs:List Value} {pv:List (Nat × Value)} {ps:List (Nat × Operand)} (qs:Nat) (ho:o.op=.buildSlice t n ps.toArray) (Ii:evs ρ (ps.map (·.2))=some (pv.map (·.2))∧ps.map (·.1)=pv.map (·.1)) (hP:fe P t=some (e,zs,sz,qs)) (hn:n*sz≤16777216)
    (hf:Instr.fill (fun i=>some (i*sz,sz)) ((Array.range (n*sz)).map (zs.toArray[· %zs.toArray.size]!)) pv=some vs.toArray) (hd:o.dst=some d) (uQ:Nat.blt d K.n=true):
    nN P K ρ l r o (fun ρ' l'=>∃b,ρ'=(d,.slice (some ⟨b,0,none⟩) n n)::ρ∧l'=⟨b,0,vs,none⟩::l):=by
  intro a w ha nx Q pY;obtain⟨i,zv,hu,hi,ue,su,Bw,hby⟩:=jQ hP;have wq:∀w,(sizeOf e).run P w=.ok sz w:=dj (by simp[cL,hi,Bw]);have hzr:∀w,(zeroValue e).run P w=.ok zv w:=fun w=>by simp[zeroValue,jO hi,ue]
  have Dx:zv.cells=zs.toArray:=by apply Array.toList_inj.1;simpa using su
  have UG:ps.map (fun p=>(p.1,a.eval p.2))=pv:=by
    have h1:=rh ha.fr _ _ Ii.1;have h2:=Ii.2;clear hf Ii ho;induction ps generalizing pv with
    |nil=>cases pv with
      |nil=>rfl
      |cons=>simp at h2
    |cons p ps ih=>cases pv with
      |nil=>simp at h2
      |cons u us=>
        simp at h1 h2;simp only[List.map_cons,List.cons.injEq];exact⟨by rw[h1.1,h2.1],ih (by simpa using h1.2) h2.2⟩
  have Qf:(ps.toArray.map fun (p:Nat × Operand)=>(p.1,a.eval p.2)).toList=pv:=by simpa using UG
  unfold Oper.wp;have nZ:(Array.range (n*sz)).map ((if n*sz=0 then #[] else zv.cells)[· %(if n*sz=0 then #[] else zv.cells).size]!)=(Array.range (n*sz)).map (zs.toArray[· %zs.toArray.size]!):=by
    split
    · rename_i h0;rw[h0];simp
    · rw[Dx]
  have he:(execOp a.eval o).run P w=.ok (.value (.slice (some ⟨w.heap.size,0,none⟩) n n)) (w.alloc (.cells vs.toArray e)):=by
    have ac2:¬n*sz>2^24:=Om;by_cases h0:n*sz=0
    · rw[h0] at hf ac2;simp only[execOp,ho];have hr0:Array.range 0= #[]:=rfl;simp only[hr0,Array.map_empty] at hf;simp[Instr.buildSlice,bA hu,wq,h0,newRow,hr0,UG,hf]
    · simp only[execOp,ho];simp[Instr.buildSlice,bA hu,wq,hzr,h0,ac2,newRow,Dx] at hf ⊢;simp[UG,hf,newRow]
  rw[he];simp only[Oper.upon,hd];refine pY _ _ ⟨_,_,⟨w.heap.size,rfl,rfl⟩,?_⟩;exact((ha.alloc vs.toArray e).ss).put uQ (.slice (some ⟨w.heap.size,0,none⟩) n n)
def iV (P:Program) (t:Nat):Option (List (Nat × Nat)):=
  match P.underlying t with
  |some (.struct fs)=>fs.toList.mapM fun f=>(cL P f.type).map fun s=>(f.offset,s)
  |_=>none
theorem run_places (P:Program) (w:World):∀(fs:List Field) (ps:List (Nat × Nat)),fs.mapM (fun f=>(cL P f.type).map fun s=>(f.offset,s))=some ps→(fs.mapM fun f=>(do pure (f.offset, ←sizeOf f.type):Sem (Nat × Nat))).run P w=.ok ps w
  |[],ps,h=>by simp at h;subst h;simp
  |f::fs,ps,h=>by
    rw[List.mapM_cons] at h;cases hs:cL P f.type with
    |none=>simp[hs] at h
    |some s=>
      have hsr:=dj hs w;cases hr:fs.mapM (fun f=>(cL P f.type).map fun s=>(f.offset,s)) with
      |none=>simp[hs,hr] at h
      |some rs=>
        simp[hs,hr] at h;subst h;have ih:=run_places P w fs rs hr;rw[List.mapM_cons];simp at ih;simp[hsr,ih]
theorem sC {zs vs:List Value} {pl:List (Nat × Nat)} {pv:List (Nat × Value)} {ps:List (Nat × Operand)} (ho:o.op=.build t ps.toArray) (Ii:evs ρ (ps.map (·.2))=some (pv.map (·.2))∧ps.map (·.1)=pv.map (·.1)) (hS:iV P t=some pl) (hZ:eL P t=some zs)
    (hf:Instr.fill (pl.toArray[·]?) zs.toArray pv=some vs.toArray):bJ P ρ o (.agg vs.toArray):=by
  intro a ha w;have UG:ps.map (fun p=>(p.1,a.eval p.2))=pv:=by
    have h1:=rh ha _ _ Ii.1;have h2:=Ii.2;clear hf Ii ho;induction ps generalizing pv with
    |nil=>cases pv with
      |nil=>rfl
      |cons=>simp at h2
    |cons p ps ih=>cases pv with
      |nil=>simp at h2
      |cons u us=>
        simp at h1 h2;simp only[List.map_cons,List.cons.injEq];exact⟨by rw[h1.1,h2.1],ih (by simpa using h1.2) h2.2⟩
  unfold eL at hZ;cases hi:P.info? t with
  |none=>simp[hi] at hZ
  |some i=>
    cases ue:i.zero with
    |none=>simp[hi,ue] at hZ
    |some zv=>
      simp[hi,ue] at hZ;have Dx:zv.cells=zs.toArray:=by apply Array.toList_inj.1;simpa using hZ
      unfold iV at hS;cases hu:P.underlying t with
      |none=>simp[hu] at hS
      |some D=>
        cases D<;>simp[hu] at hS;rename_i fs;have hm:=run_places P w fs.toList pl hS;have hzr:(zeroValue t).run P w=.ok zv w:=by simp[zeroValue,jO hi,ue]
        simp only[execOp,ho];simp only[Instr.build,Sem.run_bind,hzr,Result.andThen_ok,bA hu,Array.mapM_eq_mapM_toList,Sem.run_map];have Qf:(ps.toArray.map fun (p:Nat × Operand)=>(p.1,a.eval p.2)).toList=pv:=by simpa using UG
        rw[hm];simp only[Result.andThen_ok,Qf,Dx,hf,Sem.run_pure]
theorem DC (xs:List Nat) (n:Nat):(ae k xs).take n=ae k (xs.take n):=by simp[ae,List.map_take]
def cG (xs:List Nat) (j:Nat) (ys:List Nat):List Nat:=xs.take j++ys++xs.drop (j+ys.length)
theorem wu (xs ys:List Nat) (j:Nat) (h:j+ys.length≤xs.length):spl (ae k xs) j (ae k ys)=ae k (cG xs j ys):=by
  rw[uf _ _ _ (by simpa using h)];simp[cG,ae,List.map_take,List.map_drop]
theorem au {xs ys:List Nat} {j:Nat} (h:j+ys.length≤xs.length):(cG xs j ys).length=xs.length:=by
  simp[cG];omega
theorem UH {ca:Call} {q2:Option Addr} {sl sc dl dc e qs:Nat} {zs:List Value} {xs ys:List Nat} {sg:aV} (i j:Nat) (ho:o.op=.call ca) (hc:ca.callee=.builtin .copy) (jj:evs ρ ca.args.toList=some [.slice (some ⟨sg.b,q,none⟩) dl dc,.slice q2 sl sc]) (oB:ca.argTypes= #[t,t]) (hP:fe P t=some (e,zs,1,qs))
    (hs:nthS i l=some sg) (hq:q=sg.o+j) (qt:Src l r q2 (ae k ys)) (hlen:ys.length=min sl dl) (uP:sg.cs=ae k xs∧j+ys.length≤xs.length) (hd:o.dst=some d) (uQ:Nat.blt d K.n=true):
    nN P K ρ l r o (fun ρ' l'=>ρ'=(d,.int .i64 ((min sl dl:Nat):Int))::ρ∧l'=setS i ⟨sg.b,sg.o,ae k (cG xs j ys),sg.sh⟩ l):=by
  have:=SW (K:=K) i j ho hc jj oB hP hs hq qt (by simp[hlen]) (by rw[uP.1];simpa using uP.2) (sw _) hd uQ;rwa [uP.1,wu _ _ _ uP.2] at this
end
theorem ri {m n:Nat} (h:m<256) (k:n<256):m|||n<256:=Nat.or_lt_two_pow (n:=8) h k
theorem gL {m n:Nat} (h:m<4294967296) (k:n<4294967296):m|||n<4294967296:=Nat.or_lt_two_pow (n:=32) h k
theorem cY {m n:Nat} (h:m<18446744073709551616) (k:n<18446744073709551616):m|||n<18446744073709551616:=Nat.or_lt_two_pow (n:=64) h k
def Bytes (xs:List Nat):Prop:=∀x ∈ xs,x<256
theorem Bytes.at_ {xs:List Nat} (h:Bytes xs) (i:Nat):xs.getD i 0<256:=by
  rw[List.getD_eq_getElem?_getD];rcases Nat.lt_or_ge i xs.length with hi|hi
  · simp only[hi,List.getElem?_eq_getElem,Option.getD_some];exact h _ (List.getElem_mem hi)
  · simp[List.getElem?_eq_none hi]
def dR (xs:List Nat) (k:Nat):Nat:=((xs.getD k 0|||xs.getD (k+1) 0*2^8%4294967296)|||xs.getD (k+2) 0*2^16%4294967296)|||xs.getD (k+3) 0*2^24%4294967296
theorem fE {xs:List Nat} (h:Bytes xs) (k:Nat):dR xs k<4294967296:=by
  have h0:=h.at_ k;unfold dR;exact gL (gL (gL Om Om) Om) Om
def my (xs:List Nat) (k:Nat):Nat:=((((((xs.getD k 0|||xs.getD (k+1) 0*2^8%18446744073709551616)|||xs.getD (k+2) 0*2^16%18446744073709551616)|||xs.getD (k+3) 0*2^24%18446744073709551616)|||xs.getD (k+4) 0*2^32%18446744073709551616)|||xs.getD (k+5) 0*2^40%18446744073709551616)|||xs.getD (k+6) 0*2^48%18446744073709551616)|||xs.getD (k+7) 0*2^56%18446744073709551616
theorem n1 {xs:List Nat} (h:Bytes xs) (k:Nat):my xs k<18446744073709551616:=by
  have h0:=h.at_ k;unfold my;exact cY (cY (cY (cY (cY (cY (cY Om Om) Om) Om) Om) Om) Om) Om
def aj (n:Nat):Nat:=if n=0 then 0 else Nat.log2 n+1
theorem JR (n k:Nat) (h:2^k≤n):Nat.log2 n=k+Nat.log2 (n/2^k):=by
  induction k generalizing n with
  |zero=>simp
  |succ k ih=>
    have h2:2≤n:=Nat.le_trans (by have:1≤2^k:=Nat.one_le_two_pow;rw[Nat.pow_succ];omega) h;rw[Nat.log2_def,if_pos h2,ih (n/2) (by rw[Nat.le_div_iff_mul_le Om, ←Nat.pow_succ];exact h),Nat.div_div_eq_div_mul,show 2*2^k=2^(k+1) by rw[Nat.pow_succ,Nat.mul_comm]];omega
theorem pd (n k:Nat) (h:2^k≤n):aj n=k+aj (n/2^k):=by
  have h1:n/2^k≠0:=by
    have:=(Nat.le_div_iff_mul_le (x:=1) (y:=n) (Nat.pow_pos (n:=k) (show 0<2 by omega))).2 Om;omega
  have h0:n≠0:=by intro e;subst e;simp at h1
  unfold aj;rw[if_neg h0,if_neg h1,JR n k h];omega
theorem cW {n k:Nat} (h:n<2^k):aj n≤k:=by
  unfold aj;split
  · omega
  · rename_i h0;have:=(Nat.log2_lt h0).2 h;omega
def JS:ByteArray:=⟨#[0,1,2,2,3,3,3,3,4,4,4,4,4,4,4,4,5,5,5,5,5,5,5,5,5,5,5,5,5,5,5,5,6,6,6,6,6,6,6,6,6,6,6,6,6,6,6,6,6,6,6,6,6,6,6,6,6,6,6,6,6,6,6,6,7,7,7,7,7,7,7,7,7,7,7,7,7,7,7,7,7,7,7,7,7,7,7,7,7,7,7,7,7,7,7,7,7,7,7,7,7,7,7,7,7,7,7,7,7,7,7,7,7,7,7,7,7,7,7,7,7,7,7,7,7,7,7,7,8,8,8,8,8,8,8,8,8,8,8,8,8,8,8,8,8,8,8,8,8,8,8,8,8,8,8,8,8,8,8,8,8,8,8,8,8,8,8,8,8,8,8,8,8,8,8,8,8,8,8,8,8,8,8,8,8,8,8,8,8,8,8,8,8,8,8,8,8,8,8,8,8,8,8,8,8,8,8,8,8,8,8,8,8,8,8,8,8,8,8,8,8,8,8,8,8,8,8,8,8,8,8,8,8,8,8,8,8,8,8,8,8,8,8,8,8,8,8,8,8,8,8,8,8,8,8,8]⟩
theorem vH:∀m:Nat,m<256→JS[m]?.map UInt8.toNat=some (aj m):=by decide+kernel
theorem dk {n:Nat} (h:0<n):0<aj n:=by
  unfold aj;rw[if_neg Om];omega
theorem n3 {n:Nat} (h:0<n):2^(aj n-1)≤n:=by
  unfold aj;rw[if_neg Om];exact Nat.log2_self_le Om
theorem gM (n:Nat):n<2^aj n:=by
  unfold aj;split
  · rename_i h;subst h;decide
  · exact Nat.lt_log2_self
structure BR where
  off:Nat
  val:Nat
  rd:Nat
def BR.qK (s:BR) (n:Nat):BR:=⟨s.off,s.val*2^(n&&&63)%18446744073709551616,(s.rd+n)%256⟩
def BR.gi (xs:List Nat) (k:Nat) (s:BR):BR:=⟨s.off-4,s.val|||dR xs (k+(s.off-4))*2^(s.rd-32)%18446744073709551616,s.rd-32⟩
def BR.c6 (xs:List Nat) (k:Nat) (s:BR):BR:=if s.rd<32 then s else s.gi xs k
def BR.f' (xs:List Nat) (k:Nat) (s:BR):BR:=⟨s.off-1,s.val|||xs.getD (k+(s.off-1)) 0*2^(s.rd-8)%18446744073709551616,s.rd-8⟩
def BR.loads (xs:List Nat) (k:Nat):Nat→BR→BR
  |0,s=>s
  |n+1,s=>(BR.loads xs k n s).f' xs k
def BR.fill (t:Nat) (xs:List Nat) (k:Nat) (s:BR):BR:=if s.rd<32 then s else if t≤s.off then s.gi xs k else BR.loads xs k s.off s
def BR.start (t:Nat) (xs:List Nat) (k len:Nat):BR:=if 8≤len then ⟨len-8,my xs (k+(len-8)),0⟩ else BR.fill t xs k (BR.fill t xs k ⟨len,0,64⟩)
def BR.init (t:Nat) (xs:List Nat) (k len:Nat):BR:=(BR.start t xs k len).qK (8-(aj (xs.getD (k+(len-1)) 0)-1))
def BR.UI (s:BR) (n:Nat):Nat:=s.val/2^((64-n)&&&63)%65536
def BR.left (s:BR):Nat:=s.off*8+(64-s.rd)
structure BR.OK (len:Nat) (s:BR):Prop where
  off:s.off≤len
  val:s.val<18446744073709551616
  rd:s.rd<256
theorem BR.OK.gi {xs:List Nat} {k len:Nat} {s:BR} (h:s.OK len):(s.gi xs k).OK len:=
  ⟨by have:=h.off;simp[BR.gi];omega,cY h.val (Nat.mod_lt _ Od),by have:=h.rd;simp[BR.gi];omega⟩
theorem BR.OK.qK {len:Nat} {s:BR} (h:s.OK len) (n:Nat):(s.qK n).OK len:=⟨h.off,Nat.mod_lt _ Od,Nat.mod_lt _ Od⟩
theorem BR.OK.f' {xs:List Nat} {k len:Nat} {s:BR} (h:s.OK len):(s.f' xs k).OK len:=
  ⟨by have:=h.off;simp[BR.f'];omega,cY h.val (Nat.mod_lt _ Od),by have:=h.rd;simp[BR.f'];omega⟩
theorem BR.OK.loads {xs:List Nat} {k len:Nat} {s:BR} (h:s.OK len):∀n,(BR.loads xs k n s).OK len
  |0=>h
  |n+1=>(BR.OK.loads h n).f'
theorem BR.kv {xs:List Nat} {k:Nat} {s:BR}:∀n,(BR.loads xs k n s).off=s.off-n
  |0=>rfl
  |n+1=>by simp[BR.loads,BR.f',BR.kv n];omega
theorem BR.nc {xs:List Nat} {k:Nat} {s:BR}:∀n,(BR.loads xs k n s).rd=s.rd-8*n
  |0=>rfl
  |n+1=>by simp[BR.loads,BR.f',BR.nc n];omega
theorem BR.OK.fill {t:Nat} {xs:List Nat} {k len:Nat} {s:BR} (h:s.OK len):(BR.fill t xs k s).OK len:=by
  unfold BR.fill;split
  · exact h
  · split
    · exact h.gi
    · exact h.loads _
theorem BR.FD {t:Nat} {xs:List Nat} {k:Nat} {s:BR} (h:s.rd≤64):(BR.fill t xs k s).rd≤64:=by
  unfold BR.fill;split
  · exact h
  · split
    · simp[BR.gi];omega
    · rw[BR.nc];omega
theorem BR.rn {t:Nat} {xs:List Nat} {k len:Nat} (ht:4≤t) (hl:len<8):8*(BR.fill t xs k ⟨len,0,64⟩).off≤(BR.fill t xs k ⟨len,0,64⟩).rd:=by
  unfold BR.fill;rw[if_neg Oi];split
  · simp[BR.gi];omega
  · rw[BR.kv,BR.nc];simp
def tailV (xs:List Nat) (k:Nat):Nat→Nat
  |0=>0
  |n+1=>tailV xs k n+xs.getD (k+n) 0*2^(8*n)
theorem gp {xs:List Nat} (h:Bytes xs) (k:Nat):∀n,tailV xs k n<2^(8*n)
  |0=>by simp[tailV]
  |n+1=>by
    have h1:=gp h k n;have h2:=h.at_ (k+n);have h3:xs.getD (k+n) 0*2^(8*n)≤255*2^(8*n):=Nat.mul_le_mul_right _ Om;have h4:2^(8*(n+1))=256*2^(8*n):=by rw[show 8*(n+1)=8+8*n by omega,Nat.pow_add]
    simp only[tailV];omega
theorem pe {a b n:Nat} (h:b<2^n):a*2^n|||b=a*2^n+b:=by
  have:=Nat.shiftLeft_add_eq_or_of_lt h a;rw[Nat.shiftLeft_eq] at this;exact this.symm
theorem fV {a b n:Nat} (h:b<2^n):b|||a*2^n=a*2^n+b:=by rw[Nat.or_comm];exact pe h
theorem wv {xs:List Nat} (h:Bytes xs) (k:Nat):dR xs k=xs.getD k 0+xs.getD (k+1) 0*2^8+xs.getD (k+2) 0*2^16+xs.getD (k+3) 0*2^24:=by
  have h0:=h.at_ k;have h1:=h.at_ (k+1);have h2:=h.at_ (k+2);have h3:=h.at_ (k+3);unfold dR;rw[Nat.mod_eq_of_lt Om,Nat.mod_eq_of_lt Om,Nat.mod_eq_of_lt Om,fV (n:=8) Om,fV (n:=16) Om,fV (n:=24) Om];omega
theorem BB {xs:List Nat} (h:Bytes xs) (k:Nat):my xs k=tailV xs k 8:=by
  have h0:=h.at_ k;have h1:=h.at_ (k+1);have h2:=h.at_ (k+2);have h3:=h.at_ (k+3);have h4:=h.at_ (k+4);have h5:=h.at_ (k+5);have h6:=h.at_ (k+6);have h7:=h.at_ (k+7);unfold my;rw[Nat.mod_eq_of_lt Om,Nat.mod_eq_of_lt Om,Nat.mod_eq_of_lt Om,Nat.mod_eq_of_lt Om,Nat.mod_eq_of_lt Om,Nat.mod_eq_of_lt Om,Nat.mod_eq_of_lt Om,
    fV (n:=8) Om,fV (n:=16) Om,fV (n:=24) Om,fV (n:=32) Om,fV (n:=40) Om,fV (n:=48) Om,fV (n:=56) Om]
  simp only[tailV,Nat.add_zero];omega
structure Pos (xs:List Nat) (k len:Nat) (s:BR) (n R:Nat):Prop where
  ok:s.OK len
  rd:s.rd≤64
  n:n=8*s.off+(64-s.rd)
  dv:∃q,s.val=q*2^s.rd∧q<2^(64-s.rd)∧R=q*2^(8*s.off)+tailV xs k s.off
theorem Pos.qK {xs:List Nat} {k len:Nat} {s:BR} {n R m:Nat} (h:Pos xs k len s n R) (hb:Bytes xs) (hm:m<64) (hr:s.rd+m≤64):Pos xs k len (s.qK m) (n-m) (R%2^(n-m)):=by
  obtain⟨q,hv,hq,hR⟩:=h.dv;have h63:m&&&63=m:=by rw[show(63:Nat)=2^6-1 from rfl,Nat.and_two_pow_sub_one_eq_mod];exact Nat.mod_eq_of_lt hm
  have lz:(s.qK m).rd=s.rd+m:=by simp[BR.qK];omega
  have hp:(2:Nat)^64=2^(64-s.rd-m)*2^(s.rd+m):=by rw[←Nat.pow_add];congr 1;omega
  have iD:(s.qK m).val=(q%2^(64-s.rd-m))*2^(s.rd+m):=by
    show s.val*2^(m&&&63)%18446744073709551616=_;rw[h63,hv,show(18446744073709551616:Nat)=2^64 from rfl,hp,Nat.mul_assoc, ←Nat.pow_add,Nat.mul_mod_mul_right]
  refine⟨h.ok.qK m,Om,by rw[h.n,lz];show _=8*s.off+_;omega,q%2^(64-s.rd-m),by rw[iD,lz],?_,?_⟩
  · rw[lz,show 64-(s.rd+m)=64-s.rd-m by omega];exact Nat.mod_lt _ (Nat.pow_pos Om)
  · show R%2^(n-m)=q%2^(64-s.rd-m)*2^(8*s.off)+tailV xs k s.off;have hn:n-m=(64-s.rd-m)+8*s.off:=by rw[h.n];omega
    have ht:=gp hb k s.off;rw[hR,hn,Nat.pow_add];have e1:q*2^(8*s.off)+tailV xs k s.off=2^(8*s.off)*q+tailV xs k s.off:=by rw[Nat.mul_comm]
    rw[e1,Nat.mul_comm (2^(64-s.rd-m)),Nat.mod_mul,Nat.mul_add_mod,Nat.mod_eq_of_lt ht,Nat.mul_add_div (Nat.pow_pos Om),Nat.div_eq_of_lt ht];simp only[Nat.add_zero];rw[Nat.mul_comm,Nat.add_comm]
theorem wx {xs:List Nat} {k n:Nat} (h:0<n):tailV xs k n=tailV xs k (n-1)+xs.getD (k+(n-1)) 0*2^(8*(n-1)):=by
  cases n with
  |zero=>omega
  |succ n=>rfl
theorem Pos.f' {xs:List Nat} {k len:Nat} {s:BR} {n R:Nat} (h:Pos xs k len s n R) (hb:Bytes xs) (hr:8≤s.rd) (ho:0<s.off):Pos xs k len (s.f' xs k) n R:=by
  obtain⟨q,hv,hq,hR⟩:=h.dv;have hx:=hb.at_ (k+(s.off-1));have lz:=h.rd;have h8:(2:Nat)^s.rd=256*2^(s.rd-8):=by rw[show s.rd=8+(s.rd-8) by omega,Nat.pow_add,show 8+(s.rd-8)-8=s.rd-8 by omega]
  have eU:xs.getD (k+(s.off-1)) 0*2^(s.rd-8)<2^s.rd:=by
    rw[h8];exact Nat.mul_lt_mul_of_pos_right hx (Nat.pow_pos Om)
  have Db:(2:Nat)^s.rd≤18446744073709551616:=Nat.pow_le_pow_right (n:=2) Om (show s.rd≤64 from lz);have iD:(s.f' xs k).val=(q*256+xs.getD (k+(s.off-1)) 0)*2^(s.rd-8):=by
    show s.val|||_%18446744073709551616=_;rw[Nat.mod_eq_of_lt Om,hv,pe eU,h8,Nat.add_mul,Nat.mul_assoc]
  refine⟨h.ok.f',by show s.rd-8≤64;omega,by rw[h.n];show _=8*(s.off-1)+(64-(s.rd-8));omega,q*256+xs.getD (k+(s.off-1)) 0,iD,?_,?_⟩
  · show _<2^(64-(s.rd-8));rw[show 64-(s.rd-8)=(64-s.rd)+8 by omega,Nat.pow_add];omega
  · show R=(q*256+xs.getD (k+(s.off-1)) 0)*2^(8*(s.off-1))+tailV xs k (s.off-1);rw[hR,wx ho,Nat.add_mul,Nat.mul_assoc,show(256:Nat)*2^(8*(s.off-1))=2^(8*s.off) by rw[show(256:Nat)=2^8 from rfl, ←Nat.pow_add];congr 1;omega];omega
theorem Pos.loads {xs:List Nat} {k len:Nat} {s:BR} {n R:Nat} (h:Pos xs k len s n R) (hb:Bytes xs):∀m,8*m≤s.rd→m≤s.off→Pos xs k len (BR.loads xs k m s) n R
  |0,_,_=>h
  |m+1,h1,h2=>by
    have ih:=Pos.loads h hb m Om Om;exact ih.f' hb (by rw[BR.nc];omega) (by rw[BR.kv];omega)
theorem Pos.gi {xs:List Nat} {k len:Nat} {s:BR} {n R:Nat} (h:Pos xs k len s n R) (hb:Bytes xs) (hr:32≤s.rd) (ho:4≤s.off):Pos xs k len (s.gi xs k) n R:=by
  obtain⟨q,hv,hq,hR⟩:=h.dv;have hx:=fE hb (k+(s.off-4));have lz:=h.rd;have h8:(2:Nat)^s.rd=4294967296*2^(s.rd-32):=by
    rw[show s.rd=32+(s.rd-32) by omega,Nat.pow_add,show 32+(s.rd-32)-32=s.rd-32 by omega]
  have eU:dR xs (k+(s.off-4))*2^(s.rd-32)<2^s.rd:=by
    rw[h8];exact Nat.mul_lt_mul_of_pos_right hx (Nat.pow_pos Om)
  have Db:(2:Nat)^s.rd≤18446744073709551616:=Nat.pow_le_pow_right (n:=2) Om (show s.rd≤64 from lz);have iD:(s.gi xs k).val=(q*4294967296+dR xs (k+(s.off-4)))*2^(s.rd-32):=by
    show s.val|||_%18446744073709551616=_;rw[Nat.mod_eq_of_lt Om,hv,pe eU,h8,Nat.add_mul,Nat.mul_assoc]
  refine⟨h.ok.gi,by show s.rd-32≤64;omega,by rw[h.n];show _=8*(s.off-4)+(64-(s.rd-32));omega,q*4294967296+dR xs (k+(s.off-4)),iD,?_,?_⟩
  · show _<2^(64-(s.rd-32));rw[show 64-(s.rd-32)=(64-s.rd)+32 by omega,Nat.pow_add];omega
  · show R=(q*4294967296+dR xs (k+(s.off-4)))*2^(8*(s.off-4))+tailV xs k (s.off-4);obtain⟨f,hf⟩:∃f,s.off=f+4:=⟨s.off-4,Om⟩;rw[hR,hf,Nat.add_sub_cancel,wv hb];simp only[tailV];rw[show 8*(f+4)=8*f+32 by omega,show 8*(f+3)=8*f+24 by omega,show 8*(f+2)=8*f+16 by omega,show 8*(f+1)=8*f+8 by omega];simp only[Nat.pow_add,Nat.add_assoc k];generalize 2^(8*f)=F;generalize tailV xs k f=T;generalize xs.getD (k+f) 0=a0;generalize xs.getD (k+(f+1)) 0=a1;generalize xs.getD (k+(f+2)) 0=a2;generalize xs.getD (k+(f+3)) 0=a3;simp only[Nat.add_mul,Nat.mul_assoc,Nat.reducePow];simp only[Nat.mul_comm F];omega
theorem Pos.c6 {xs:List Nat} {k len:Nat} {s:BR} {n R:Nat} (h:Pos xs k len s n R) (hb:Bytes xs) (ho:32≤s.rd→4≤s.off):Pos xs k len (s.c6 xs k) n R∧(s.c6 xs k).rd≤32:=by
  unfold BR.c6;split
  · exact⟨h,Om⟩
  · exact⟨h.gi hb Om (ho Om),by have:=h.rd;simp[BR.gi];omega⟩
theorem Pos.fill {t:Nat} {xs:List Nat} {k len:Nat} {s:BR} {n R:Nat} (h:Pos xs k len s n R) (hb:Bytes xs) (ht:4≤t) (h8:32≤s.rd→s.off<t→8*s.off≤s.rd):Pos xs k len (BR.fill t xs k s) n R∧((BR.fill t xs k s).rd≤32∨(BR.fill t xs k s).off=0):=by
  unfold BR.fill;split
  · exact⟨h,Om⟩
  · split
    · exact⟨h.gi hb Om Om,by have:=h.rd;simp[BR.gi];omega⟩
    · exact⟨h.loads hb _ (h8 Om Om) (Nat.le_refl _),.inr (by rw[BR.kv];omega)⟩
theorem Pos.top {xs:List Nat} {k len:Nat} {s:BR} {n R L:Nat} (h:Pos xs k len s n R) (hb:Bytes xs) (hL:L≤64) (hr:s.rd+L≤64∨s.off=0):s.val/2^(64-L)=R*2^L/2^n:=by
  obtain⟨q,hv,hq,hR⟩:=h.dv;have lz:=h.rd;have ht:=gp hb k s.off;have pos:∀m:Nat,0<2^m:=fun m=>Nat.pow_pos Om
  rcases Nat.lt_or_ge 64 (s.rd+L) with eU|hle
  · have h0:s.off=0:=Om;rw[h0] at hR ht;simp[tailV] at hR;have hn:n=64-s.rd:=by rw[h.n,h0];omega
    obtain⟨e,he⟩:∃e,s.rd=(64-L)+e:=⟨s.rd+L-64,Om⟩;rw[hv,hR,hn,he,Nat.pow_add, ←Nat.mul_assoc,Nat.mul_right_comm,Nat.mul_div_cancel _ (pos _)];have Pb:(2:Nat)^L=2^e*2^(64-(64-L+e)):=by rw[←Nat.pow_add];congr 1;omega
    rw[Pb, ←Nat.mul_assoc,Nat.mul_div_cancel _ (pos _)]
  · obtain⟨e,he⟩:∃e,64-L=s.rd+e:=⟨64-L-s.rd,Om⟩;have hn:n=(8*s.off+e)+L:=by rw[h.n];omega
    rw[hv,he,hn,Nat.pow_add,Nat.pow_add,Nat.mul_div_mul_right _ _ (pos _), ←Nat.div_div_eq_div_mul,Nat.mul_div_cancel _ (pos _),hR,Nat.pow_add, ←Nat.div_div_eq_div_mul,Nat.add_comm,Nat.add_mul_div_right _ _ (pos _),Nat.div_eq_of_lt ht,Nat.zero_add]
def tN (cd:Nat→Nat × Nat):List Nat→Nat
  |[]=>0
  |c::t=>(cd c).1+tN cd t
def tR (cd:Nat→Nat × Nat):List Nat→Nat
  |[]=>0
  |c::t=>(cd c).2*2^tN cd t+tR cd t
structure Be (dt:List Nat) (L:Nat) (cd:Nat→Nat × Nat) (S:Nat→Prop):Prop where
  L1:1≤L
  L16:L≤11
  one:∀c,S c→c<256∧1≤(cd c).1∧(cd c).1≤L∧(cd c).2<2^(cd c).1
  at_:∀c,S c→∀v,v<2^L→v/2^(L-(cd c).1)=(cd c).2→dt.getD v 0=(cd c).1+256*c
structure dS (xs:List Nat) (k len:Nat) (cd:Nat→Nat × Nat) (S:Nat→Prop) (s:BR) (t:List Nat):Prop where
  pos:Pos xs k len s (tN cd t) (tR cd t)
  all:∀c ∈ t,S c
theorem SZ {dt:List Nat} {L:Nat} {cd:Nat→Nat × Nat} {S:Nat→Prop} (h:Be dt L cd S):∀t:List Nat,(∀c ∈ t,S c)→tN cd t≤L*t.length∧t.length≤tN cd t
  |[],_=>by simp[tN]
  |c::t,ha=>by
    have:=SZ h t (fun x hx=>ha x (List.mem_cons_of_mem _ hx));have:=h.one c (ha c List.mem_cons_self);simp only[tN,List.length_cons,Nat.mul_add];omega
theorem FE {dt:List Nat} {L:Nat} {cd:Nat→Nat × Nat} {S:Nat→Prop} (h:Be dt L cd S):∀t:List Nat,(∀c ∈ t,S c)→tR cd t<2^tN cd t
  |[],_=>by simp[tN,tR]
  |c::t,ha=>by
    have h1:=FE h t (fun x hx=>ha x (List.mem_cons_of_mem _ hx));have h2:=(h.one c (ha c List.mem_cons_self)).2.2.2;have h3:(cd c).2*2^tN cd t≤(2^(cd c).1-1)*2^tN cd t:=Nat.mul_le_mul_right _ Om;rw[Nat.sub_mul,Nat.one_mul, ←Nat.pow_add] at h3;have:2^tN cd t≤2^((cd c).1+tN cd t):=Nat.pow_le_pow_right Om Om;simp only[tN,tR];omega
section
variable {xs dt:List Nat} {k len L:Nat} {cd:Nat→Nat × Nat} {S:Nat→Prop} {s:BR} {t:List Nat}
theorem dS.look (h:dS xs k len cd S s t) (hT:Be dt L cd S) (hb:Bytes xs) (ht:0<t.length) (hr:s.rd+L≤64∨s.off=0):
    dt.getD (s.val/2^(64-L)) 0=(cd (t.getD 0 0)).1+256*t.getD 0 0∧s.val/2^(64-L)<2^L:=by
  cases t with
  |nil=>simp at ht
  |cons c t=>
    have hc:=h.all c List.mem_cons_self;obtain⟨BC,h1,hl,h2⟩:=hT.one c hc;have hL:=hT.L16;have pos:∀m:Nat,0<2^m:=fun m=>Nat.pow_pos Om
    have htR:=FE hT t (fun x hx=>h.all x (List.mem_cons_of_mem _ hx));have eU:s.val/2^(64-L)<2^L:=by
      rw[Nat.div_lt_iff_lt_mul (pos _), ←Nat.pow_add,show L+(64-L)=64 by omega];exact h.pos.ok.val
    refine⟨hT.at_ c hc _ eU ?_,eU⟩;rw[h.pos.top hb Om hr];show((cd c).2*2^tN cd t+tR cd t)*2^L/2^((cd c).1+tN cd t)/2^(L-(cd c).1)=_;rw[Nat.div_div_eq_div_mul, ←Nat.pow_add,show(cd c).1+tN cd t+(L-(cd c).1)=tN cd t+L by omega,Nat.pow_add,Nat.mul_div_mul_right _ _ (pos _),Nat.add_comm,Nat.add_mul_div_right _ _ (pos _),Nat.div_eq_of_lt htR,Nat.zero_add]
theorem dS.next (h:dS xs k len cd S s t) (hT:Be dt L cd S) (hb:Bytes xs) (ht:0<t.length) (hr:s.rd+L≤64∨s.off=0):
    dS xs k len cd S (s.qK (cd (t.getD 0 0)).1) (t.drop 1)∧1≤(cd (t.getD 0 0)).1∧(cd (t.getD 0 0)).1≤L∧t.getD 0 0<256∧s.rd+(cd (t.getD 0 0)).1≤64:=by
  cases t with
  |nil=>simp at ht
  |cons c t=>
    have hc:=h.all c List.mem_cons_self;obtain⟨BC,h1,hl,h2⟩:=hT.one c hc;have hL:=hT.L16;have htR:=FE hT t (fun x hx=>h.all x (List.mem_cons_of_mem _ hx));have hn:tN cd (c::t)=(cd c).1+tN cd t:=rfl;have lz:s.rd+(cd c).1≤64:=by
      rcases hr with h'|h'
      · omega
      · have:=h.pos.n;rw[hn,h'] at this;omega
    have ha:=h.pos.qK hb (m:=(cd c).1) Om lz;refine⟨⟨?_,fun x hx=>h.all x (List.mem_cons_of_mem _ (by simpa using hx))⟩,h1,hl,BC,lz⟩;rw[hn,show(cd c).1+tN cd t-(cd c).1=tN cd t by omega] at ha;show Pos xs k len (s.qK (cd c).1) (tN cd t) (tR cd t);have:tR cd (c::t)%2^tN cd t=tR cd t:=by
      show((cd c).2*2^tN cd t+tR cd t)%_=_;rw[Nat.mul_comm,Nat.mul_add_mod,Nat.mod_eq_of_lt htR]
    rwa [this] at ha
end
section
variable {P:Program} {K:Kx} {Q:Exit→Act→World→Prop} {ρ:bx} {l r p rest:List aV} {o:Oper} {v:Value} {x y z:Operand} {t s f sz n m c lo hi len cap b q j d:Nat} {k k':IntKind}
theorem G.pick {cd:Code} (is:List Nat) (hp:pickS is l=some (p,rest)) (h:G P K Q cd ρ p r):G P K Q cd ρ l r:=fun a w ha=>h a w (ha.pick is hp)
theorem GQ.pick {e:Exit} (is:List Nat) (hp:pickS is l=some (p,rest)) (h:GQ K Q e ρ p r):GQ K Q e ρ l r:=fun a w ha=>h a w (ha.pick is hp)
theorem G.gT {x:Code} (M:bx→List aV→Prop) (h:G P K (Exit.then (fun a w=>∃ρ l,M ρ l∧At K ρ l r a w) Q) x ρ l r) (k:∀ρ l,M ρ l→GQ K Q .normal ρ l r):G P K Q x ρ l r:=by
  refine fun a w ha=>wp_mono (h a w ha) ?_
  intro e a' w' hq;cases e with
  |normal=>obtain⟨ρ',l',hM,hA⟩:=hq;exact k ρ' l' hM a' w' hA
  |_=>exact hq
def iH (i:Value) (s:BR):List Value:=[i,.int .u64 ((s.off:Nat):Int),.int .u64 ((s.val:Nat):Int),.int .u8 ((s.rd:Nat):Int)]
theorem bR.bB {f:FuncId} {args:List Value} {u iv:Value} {b o:Nat} {sh:Option (TypeId × Nat)} {s0:BR} (R:BR→Prop) (h:bR P f args l r (fun v l'=>v=u∧l'=[⟨b,o,iH iv s0,sh⟩])) (hR:R s0):
    bR P f args l r (fun v l'=>v=u∧∃s',R s'∧l'=[⟨b,o,iH iv s',sh⟩]):=h.mono fun v l' ⟨h1,h2⟩=>⟨h1,s0,hR,h2⟩
theorem gk {m k:Nat} (h:m<2^k):m&&&(2^k-1)=m:=by rw[Nat.and_two_pow_sub_one_eq_mod,Nat.mod_eq_of_lt h]
theorem aG {u:Value} (h:bJ P ρ o u) (e:u=v):bJ P ρ o v:=e▸h
theorem Qg (s:BR) (L:Nat) (h1:1≤L) (h:L≤16) (hv:s.val<18446744073709551616):s.UI L=s.val/2^(64-L):=by
  unfold BR.UI;rw[show(64-L)&&&63=64-L by rw[show(63:Nat)=2^6-1 from rfl,Nat.and_two_pow_sub_one_eq_mod];exact Nat.mod_eq_of_lt Om];apply Nat.mod_eq_of_lt;rw[Nat.div_lt_iff_lt_mul (Nat.pow_pos Om)];have:(65536:Nat)*2^(64-L)=2^(80-L):=by rw[show(65536:Nat)=2^16 from rfl, ←Nat.pow_add];congr 1;omega
  rw[this];exact Nat.lt_of_lt_of_le hv (Nat.pow_le_pow_right (n:=2) Om (show 64≤80-L by omega))
theorem Qh {T T':TypeId} {zv:Value} (ho:o.op=.typeAssert x T T' true) (hx:ev ρ x=some .nilIface) (hz:(P.info? T').bind (·.zero)=some zv) (hT:(match P.underlying T' with|some (.pointer _)=>true|_=>false)=true):bJ P ρ o (.tuple #[zv,.bool false]):=fun ac ha w=>by
  cases hu:P.underlying T' with
  |none=>simp[hu] at hT
  |some D=>
    cases D<;>simp[hu] at hT;cases hi:P.info? T' with
    |none=>simp[hi] at hz
    |some i=>
      simp[hi] at hz;simp[execOp,ho,cq ha hx,Instr.typeAssert,bA hu,zeroValue,jO hi,hz]
theorem akr {cs:List Value} (ho:o.op=.build t #[]) (hz:eL P t=some cs) (hu:(match P.underlying t with|some (.array _ e)=>(cL P e).isSome|_=>false)=true):bJ P ρ o (.agg cs.toArray):=fun ac ha w=>by
  unfold eL at hz;cases hi:P.info? t with
  |none=>simp[hi] at hz
  |some i=>
    cases ue:i.zero with
    |none=>simp[hi,ue] at hz
    |some zv=>
      simp[hi,ue] at hz;have Dx:zv.cells=cs.toArray:=by apply Array.toList_inj.1;simpa using hz
      cases hu':P.underlying t with
      |none=>simp[hu'] at hu
      |some D=>
        cases D<;>simp[hu'] at hu;rename_i n e;obtain⟨sz,hs⟩:=Option.isSome_iff_exists.1 hu;simp[execOp,ho,Instr.build,zeroValue,jO hi,ue,bA hu',dj hs,Instr.fill,Dx]
theorem JT {d:Nat} {cs:List Value} (ho:o.op=.box t x) (hx:ev ρ x=some (.agg cs.toArray)) (hd:o.dst=some d) (hn:Nat.blt d K.n=true):
    nN P K ρ l r o (fun ρ' l'=>∃b,ρ'=(d,.pointer (some ⟨b,0,none⟩))::ρ∧l'=⟨b,0,cs,some (t,cs.length)⟩::l):=
  m9 ho hx rfl hd hn
end
theorem az {k:IntKind} {xs:List Nat} {j e:Nat} (h:j<xs.length) (he:xs.getD j 0=e):((ae k xs).drop j).take 1=[.int k ((e:Nat):Int)]:=he▸DB h
theorem cw {s:BR} {n:Nat} (h:s.rd+n≤64):(s.qK n).rd=s.rd+n:=by simp[BR.qK];omega
theorem dS.get {xs dt:List Nat} {k len L:Nat} {cd:Nat→Nat × Nat} {S:Nat→Prop} {s:BR} {c:Nat} {t:List Nat} (h:dS xs k len cd S s (c::t)) (hT:Be dt L cd S) (hb:Bytes xs) (hr:s.rd+L≤64∨s.off=0):
    ∃n p,s.val/2^(64-L)=p∧dt.getD p 0=n+256*c∧p<2^L∧c<256∧1≤n∧n≤L∧s.rd+n≤64∧tN cd (c::t)=n+tN cd t∧dS xs k len cd S (s.qK n) t:=by
  obtain⟨h1,h2⟩:=h.look hT hb Oi hr;obtain⟨h3,h4,h5,h6,h7⟩:=h.next hT hb Oi hr;exact⟨(cd c).1,_,rfl,h1,h2,h6,h4,h5,h7,rfl,h3⟩
theorem lA {t:List Nat} (h:4≤t.length):∃c1 c2 c3 c4 t',t=c1::c2::c3::c4::t':=by
  match t,h with
  |c1::c2::c3::c4::t',_=>exact⟨c1,c2,c3,c4,t',rfl⟩
theorem DD {t:List Nat} (h:0<t.length):∃c t',t=c::t':=by
  match t,h with
  |c::t',_=>exact⟨c,t',rfl⟩
theorem kx {dt:List Nat} {L B:Nat} {cd:Nat→Nat × Nat} {S:Nat→Prop} (h:Be dt L cd S) (hB:L≤B) {t:List Nat} (ha:∀c ∈ t,S c):tN cd t≤B*t.length∧t.length≤tN cd t:=by
  have h1:=SZ h t ha;exact⟨Nat.le_trans h1.1 (Nat.mul_le_mul_right _ hB),h1.2⟩
theorem sD {ys B:List Nat} {n c:Nat} (h:ys.take n=B) (hn:n<ys.length):(ys.set n c).take (n+1)=B++[c]:=by
  rw[List.take_succ_eq_append_getElem (by simpa using hn),List.take_set_of_le (Nat.le_refl n),h];simp
theorem wy {ys B:List Nat} {n c1 c2 c3 c4:Nat} (h:ys.take n=B) (hn:n+4≤ys.length):((((ys.set (n+0) c1).set (n+1) c2).set (n+2) c3).set (n+3) c4).take (n+4)=B++[c1,c2,c3,c4]:=by
  have h1:=sD (c:=c1) h Om;have h2:=sD (c:=c2) h1 Oz;have h3:=sD (c:=c3) h2 Oz;have h4:=sD (c:=c4) h3 Oz;simpa using h4
theorem pf {p:Option Addr} {a a' b b':Nat} (h1:a=a') (h2:b=b'):Value.slice p a b=Value.slice p a' b':=by rw[h1,h2]
theorem wB:Array.range 1= #[0]:=by decide
theorem wC:Array.range 2= #[0,1]:=by decide
theorem wD:Array.range 3= #[0,1,2]:=by decide
theorem n4 {L m:Nat} (h:L≤m):2^L≤2^m:=Nat.pow_le_pow_right Om h
theorem dS.c6 {xs:List Nat} {k len:Nat} {cd:Nat→Nat × Nat} {S:Nat→Prop} {s:BR} {t:List Nat} (h:dS xs k len cd S s t) (hb:Bytes xs) (ho:32≤s.rd→4≤s.off):
    dS xs k len cd S (s.c6 xs k) t∧(s.c6 xs k).rd≤32∧s.off≤(s.c6 xs k).off+4∧(s.c6 xs k).off≤s.off:=by
  obtain⟨h1,h2⟩:=h.pos.c6 hb ho;refine⟨⟨h1,h.all⟩,h2,?_,?_⟩<;>(unfold BR.c6;split<;>simp[BR.gi]<;>omega)
theorem dS.fill {xs:List Nat} {k len T:Nat} {cd:Nat→Nat × Nat} {S:Nat→Prop} {s:BR} {t:List Nat} (h:dS xs k len cd S s t) (hb:Bytes xs) (hT:4≤T) (h8:32≤s.rd→s.off<T→8*s.off≤s.rd):
    dS xs k len cd S (BR.fill T xs k s) t∧((BR.fill T xs k s).rd≤32∨(BR.fill T xs k s).off=0)∧(BR.fill T xs k s).off≤s.off:=by
  obtain⟨h1,h2⟩:=h.pos.fill hb hT h8;refine⟨⟨h1,h.all⟩,h2,?_⟩;unfold BR.fill;split
  · omega
  · split
    · simp[BR.gi]
    · rw[BR.kv];omega
theorem dS.f' {xs:List Nat} {k len:Nat} {cd:Nat→Nat × Nat} {S:Nat→Prop} {s:BR} {t:List Nat} (h:dS xs k len cd S s t) (hb:Bytes xs) (hr:8≤s.rd) (ho:0<s.off):dS xs k len cd S (s.f' xs k) t:=⟨h.pos.f' hb hr ho,h.all⟩
theorem JU (v L:Nat) (h:L≤8) (hv:v<18446744073709551616):v/2^56%256/2^(8-L)=v/2^(64-L):=by
  rw[Nat.mod_eq_of_lt Om,Nat.div_div_eq_div_mul, ←Nat.pow_add];congr 2;omega
theorem dS.left {xs:List Nat} {k len:Nat} {cd:Nat→Nat × Nat} {S:Nat→Prop} {s:BR} {t:List Nat} (h:dS xs k len cd S s t):tN cd t=8*s.off+(64-s.rd)∧s.rd≤64∧s.off≤len:=⟨h.pos.n,h.pos.rd,h.pos.ok.off⟩
structure Rd (q:Option Addr) (n sz:Nat) (row:List Value) (s:aV) (j:Nat):Prop where
  len:row.length=n*sz
  ad:0<n→q=some ⟨s.b,s.o+j,none⟩
  cs:(s.cs.drop j).take row.length=row
theorem Rd.get {q:Option Addr} {n sz:Nat} {row:List Value} {s:aV} {j i:Nat} (h:Rd q n sz row s j) (hi:i<row.length):s.cs[j+i]? =row[i]? :=by
  have h1:=congrArg (fun l:List Value=>l[i]?) h.cs;simp only[List.getElem?_take,if_pos hi,List.getElem?_drop] at h1;exact h1
theorem Rd.wE {q:Option Addr} {n:Nat} {k:IntKind} {xs:List Nat} {s:aV} {j i:Nat} (h:Rd q n 1 (ae k xs) s j) (hi:i<n):s.cs[j+i]? =some (.int k ((xs.getD i 0:Nat):Int)):=by
  have hl:xs.length=n:=by have:=h.len;simpa using this
  rw[h.get Oz,af Om]
theorem Rd.Qi {q:Option Addr} {n:Nat} {k:IntKind} {xs:List Int} {s:aV} {j i:Nat} (h:Rd q n 1 (ints k xs) s j) (hi:i<n):s.cs[j+i]? =some (.int k (xs.getD i 0)):=by
  have hl:xs.length=n:=by have:=h.len;simpa using this
  rw[h.get Oz,gn Om]
theorem Rd.lB {q:Option Addr} {n:Nat} {k:IntKind} {xs:List Nat} {s:aV} {j:Nat} (h:Rd q n 1 (ae k xs) s j):xs.length=n:=by have:=h.len;simpa using this
theorem Rd.ac3 {q:Option Addr} {n:Nat} {k:IntKind} {xs:List Int} {s:aV} {j:Nat} (h:Rd q n 1 (ints k xs) s j):xs.length=n:=by have:=h.len;simpa using this
theorem Rd.ac4 {q:Option Addr} {b o n sz cap:Nat} {cs row:List Value} {sh:Option (TypeId × Nat)} (hg:GS q b o cs sz cap) (hn:n≤cap) (hp:cs.take (n*sz)=row):Rd q n sz row ⟨b,o,cs,sh⟩ 0:=by
  have hle:n*sz≤cap*sz:=Nat.mul_le_mul_right _ hn;have hl:row.length=n*sz:=by rw[←hp,List.length_take,hg.len];omega
  refine⟨hl,fun h0=>by have:=hg.bB Om;simpa using this,?_⟩;rw[hl,List.drop_zero];exact hp
theorem Rd.ym {q:Option Addr} {b o n cap:Nat} {k:IntKind} {cs:List Value} {xs:List Nat} {sh:Option (TypeId × Nat)} (hg:GS q b o cs 1 cap) (hn:n≤cap) (hp:cs.take n=ae k xs):Rd q n 1 (ae k xs) ⟨b,o,cs,sh⟩ 0:=Rd.ac4 hg hn (by rw[Nat.mul_one];exact hp)
theorem Rd.aks {q:Option Addr} {b o n cap:Nat} {k:IntKind} {cs:List Value} {xs:List Int} {sh:Option (TypeId × Nat)} (hg:GS q b o cs 1 cap) (hn:n≤cap) (hp:cs.take n=ints k xs):Rd q n 1 (ints k xs) ⟨b,o,cs,sh⟩ 0:=Rd.ac4 hg hn (by rw[Nat.mul_one];exact hp)
theorem Rd.Un {b o a n j:Nat} {k:IntKind} {xs ys:List Nat} {sh:Option (TypeId × Nat)} (hj:a=o+j) (hy:(xs.drop j).take n=ys) (hn:j+n≤xs.length):Rd (some ⟨b,a,none⟩) n 1 (ae k ys) ⟨b,o,ae k xs,sh⟩ j:=by
  subst hj;subst hy;refine⟨Oz,fun _=>rfl,fx _ _ _⟩
theorem Rd.nil {row:List Value} {s:aV} {sz:Nat} (h:row=[]):Rd none 0 sz row s 0:=by
  subst h;exact⟨Oi,fun h=>Om,Oi⟩
theorem Rd.cut {q q':Option Addr} {n m lo sz:Nat} {row UJ:List Value} {s:aV} {j:Nat} (h:Rd q n sz row s j) (hm:lo+m≤n) (hr:(row.drop (lo*sz)).take (m*sz)=UJ) (hq:0<m→q'=some ⟨s.b,s.o+(j+lo*sz),none⟩):Rd q' m sz UJ s (j+lo*sz):=by
  have hle:lo*sz+m*sz≤n*sz:=by rw[←Nat.add_mul];exact Nat.mul_le_mul_right _ hm
  have hl:UJ.length=m*sz:=by rw[←hr,List.length_take,List.length_drop,h.len];omega
  refine⟨hl,hq,?_⟩;rw[hl, ←hr];have h1:=h.cs;rw[h.len] at h1;rw[←h1,List.drop_take,List.take_take,List.drop_drop];congr 1;omega
theorem Src.wF {l r:List aV} {q:Option Addr} {n sz:Nat} {row:List Value} {s:aV} {j:Nat} (i:Nat) (hs:nthS i (l++r)=some s) (h:Rd q n sz row s j):Src l r q row:=by
  rcases Nat.eq_zero_or_pos n with h0|h0
  · left;have:=h.len;rw[h0,Nat.zero_mul] at this;exact List.eq_nil_of_length_eq_zero this
  · exact .inr ⟨s,fb _ _ _ hs,j,h.ad h0,h.cs⟩
section
variable {P:Program} {K:Kx} {Q:Exit→Act→World→Prop} {ρ:bx} {l r:List aV} {o:Oper} {v:Value} {x y z:Operand} {t s f sz n m lo hi len cap b q j:Nat} {k k':IntKind} {p:Option Addr}
theorem ig {q':Nat} (ho:o.op=.indexAddr t x y) (hx:ev ρ x=some (.slice p len cap)) (hy:ev ρ y=some (.int k (m:Nat))) (hP:cx P t=some sz) (h:m<len) (hp:p=some ⟨b,q,none⟩) (hq:q+m*sz=q'):bJ P ρ o (.pointer (some ⟨b,q',none⟩)):=by
  subst hp;exact fc ho hx hy hP h hq
def n5 (p:Option Addr) (lo sz cap:Nat):Option Addr:=p.bind fun a=>some (if cap=lo then a else a.add (lo*sz))
theorem lP {b q lo sz cap q':Nat} {p:Option Addr} (hp:p=some ⟨b,q,none⟩) (h:lo<cap) (hq:q+lo*sz=q'):n5 p lo sz cap=some ⟨b,q',none⟩:=by
  subst hp;subst hq;simp[n5,eM,show¬cap=lo by omega]
theorem ac5 (ho:o.op=.slice t x (some y) (some z) none) (hx:ev ρ x=some (.slice p len cap)) (hy:ev ρ y=some (.int k (lo:Nat))) (hz:ev ρ z=some (.int k' (hi:Nat))) (hP:cx P t=some sz) (h:lo≤hi∧hi≤cap) (hp:p=none→cap=0):bJ P ρ o (.slice (n5 p lo sz cap) (hi-lo) (cap-lo)):=by
  intro ac ha w;unfold cx at hP;cases hu:P.underlying t with
  |none=>simp[hu] at hP
  |some D=>
    cases D<;>simp[hu] at hP;cases p with
    |none=>
      have h0:=hp rfl;obtain rfl:lo=0:=Om;obtain rfl:hi=0:=Om;subst h0;simp[execOp,ho,cq ha hx,cq ha hy,cq ha hz,Instr.sliceAt,bA hu,Instr.slice,Instr.sliceBounds,Instr.sliceBound,asIntOf,dj hP,n5]
    |some a=>simp[execOp,ho,cq ha hx,cq ha hy,cq ha hz,Instr.sliceAt,bA hu,Instr.slice,Instr.sliceBounds,Instr.sliceBound,asIntOf,dj hP,h.1,h.2,n5];split<;>rfl
def PA (p:Option Addr) (cap:Nat):Prop:=(∃b q:Nat,p=some ⟨b,q,none⟩)∨(p=none∧cap=0)
theorem PA.pg (h:PA p cap):p=none→cap=0:=fun e=>by
  rcases h with ⟨b,q,h⟩|⟨_,h⟩
  · rw[e] at h;cases h
  · exact h
theorem rp (ho:o.op=.slice t x (some y) none none) (hx:ev ρ x=some (.slice p len cap)) (hy:ev ρ y=some (.int k (lo:Nat))) (hP:cx P t=some sz) (h:lo≤len∧len≤cap) (hp:p=none→cap=0):bJ P ρ o (.slice (n5 p lo sz cap) (len-lo) (cap-lo)):=by
  intro ac ha w;unfold cx at hP;cases hu:P.underlying t with
  |none=>simp[hu] at hP
  |some D=>
    cases D<;>simp[hu] at hP;cases p with
    |none=>
      have h0:=hp rfl;subst h0;obtain rfl:len=0:=Om;obtain rfl:lo=0:=Om;simp[execOp,ho,cq ha hx,cq ha hy,Instr.sliceAt,bA hu,Instr.slice,Instr.sliceBounds,Instr.sliceBound,asIntOf,dj hP,n5]
    |some a=>simp[execOp,ho,cq ha hx,cq ha hy,Instr.sliceAt,bA hu,Instr.slice,Instr.sliceBounds,Instr.sliceBound,asIntOf,dj hP,h.1,h.2,n5];split<;>rfl
theorem JV {bo:BinOp} {e:Nat} {ty cS:TypeId} (hb:bo=.eql∨bo=.neq) (ho:o.op=.binOp bo ty x (.const (.slice none 0 0)) cS) (hx:ev ρ x=some (.slice p len cap)) (hu:P.underlying ty=some (.slice e)):bJ P ρ o (.bool (if bo=.eql then p.isNone else !p.isNone)):=fun ac ha w=>by
  have h:∀w,(Op.equal ty (.slice p len cap) (.slice none 0 0)).run P w=.ok p.isNone w:=fun w=>by
    have:∀d,(Op.equalIn (d+1) ty (.slice p len cap) (.slice none 0 0)).run P w=.ok p.isNone w:=fun d=>by cases p<;>simp[Op.equalIn,bA hu]
    exact this 9999
  have hg:(eqGuard bo ty x (.const (.slice none 0 0)) (.slice p len cap) (.slice none 0 0)).run P w=.ok () w:=by
    unfold eqGuard;rcases hb with rfl|rfl<;>simp
  have hr:(binOp bo ty (.slice p len cap) (.slice none 0 0)).run P w=.ok (.bool (if bo=.eql then p.isNone else !p.isNone)) w:=by
    rcases hb with rfl|rfl<;>simp[binOp,h]
  have Uz:ac.eval (.const (.slice none 0 0))=.slice none 0 0:=rfl;simp only[execOp,ho,cq ha hx,Uz,Sem.run_bind,hg,hr,Result.andThen_ok,Sem.run_pure]
theorem y4 {e:Nat} {ty cS:TypeId} (ho:o.op=.binOp .eql ty x (.const (.slice none 0 0)) cS) (hx:ev ρ x=some (.slice p len cap)) (hu:P.underlying ty=some (.slice e)):bJ P ρ o (.bool p.isNone):=JV (.inl rfl) ho hx hu
end
theorem GS.pa {q:Option Addr} {b o sz cap:Nat} {cs:List Value} (h:GS q b o cs sz cap):PA q cap:=by
  rcases h.ad with h'|h'
  · exact .inl ⟨_,_,h'⟩
  · exact .inr h'
theorem PA.some {b q cap:Nat}:PA (some ⟨b,q,none⟩) cap:=.inl ⟨_,_,rfl⟩
theorem PA.cut {p:Option Addr} {lo sz cap:Nat} (h:PA p cap):PA (n5 p lo sz cap) (cap-lo):=by
  rcases h with ⟨b,q,rfl⟩|⟨rfl,h⟩
  · left;simp only[n5,Option.bind_some,eM];split
    · exact⟨_,_,rfl⟩
    · exact⟨_,_,rfl⟩
  · exact .inr ⟨rfl,Om⟩
def rows {α:Type} (f:α→List Value) (xs:List α):List Value:=xs.flatMap f
section
variable {α:Type} {f:α→List Value} {sz:Nat}
theorem aP (hf:∀x,(f x).length=sz):∀xs:List α,(rows f xs).length=xs.length*sz
  |[]=>by simp[rows]
  |x::xs=>by
    have:=aP hf xs;simp only[rows,List.flatMap_cons,List.length_append,List.length_cons,hf,Nat.add_mul,Nat.one_mul] at this ⊢;omega
theorem uY (xs ys:List α):rows f (xs++ys)=rows f xs++rows f ys:=by simp[rows]
theorem p5 (hf:∀x,(f x).length=sz):∀(xs:List α) (i:Nat),(rows f xs).drop (i*sz)=rows f (xs.drop i)
  |xs,0=>by simp
  |[],i+1=>by simp[rows]
  |x::xs,i+1=>by
    have:=p5 hf xs i;simp only[rows,List.flatMap_cons,List.drop_succ_cons] at this ⊢;rw[Nat.add_mul,Nat.one_mul,Nat.add_comm, ←List.drop_drop,List.drop_left' (hf x)];exact this
theorem ug (hf:∀x,(f x).length=sz):∀(xs:List α) (i:Nat),(rows f xs).take (i*sz)=rows f (xs.take i)
  |xs,0=>by simp[rows]
  |[],i+1=>by simp[rows]
  |x::xs,i+1=>by
    have:=ug hf xs i;simp only[rows,List.flatMap_cons,List.take_succ_cons] at this ⊢;rw[Nat.add_mul,Nat.one_mul,Nat.add_comm, ←hf x,List.take_length_add_append,hf x,this]
theorem dD (hf:∀x,(f x).length=sz) (d:α) {xs:List α} {i:Nat} (hi:i<xs.length):((rows f xs).drop (i*sz)).take sz=f (xs.getD i d):=by
  rw[p5 hf,List.drop_eq_getElem_cons hi];simp only[rows,List.flatMap_cons];rw[List.take_left' (hf _)];simp[hi]
theorem sE (hf:∀x,(f x).length=sz) (d:α) {xs:List α} {i e:Nat} (hi:i<xs.length) (he:e<sz):(rows f xs)[i*sz+e]? =(f (xs.getD i d))[e]? :=by
  rw[←dD hf d hi,List.getElem?_take,if_pos he,List.getElem?_drop]
theorem wG (hf:∀x,(f x).length=sz) {xs:List α} {i:Nat} (hi:i<xs.length) (y:α):spl (rows f xs) (i*sz) (f y)=rows f (xs.set i y):=by
  have hl:i*sz+sz≤xs.length*sz:=by rw[←Nat.succ_mul];exact Nat.mul_le_mul_right _ hi
  rw[uf _ _ _ (by rw[hf,aP hf];exact hl),hf,ug hf,show i*sz+sz=(i+1)*sz by rw[Nat.succ_mul],p5 hf,List.set_eq_take_append_cons_drop,if_pos hi];simp[rows]
theorem dB (hf:∀x,(f x).length=sz) (d:α) {xs:List α} {i e:Nat} {v:Value} {y:α} (hi:i<xs.length) (he:e<sz) (h:(f (xs.getD i d)).set e v=f y):(rows f xs).set (i*sz+e) v=rows f (xs.set i y):=by
  have hl:i*sz+sz≤xs.length*sz:=by rw[←Nat.succ_mul];exact Nat.mul_le_mul_right _ hi
  rw[←wG hf hi y, ←h];rw[uf _ _ _ (by rw[List.length_set,hf,aP hf];exact hl),List.length_set,hf];have h1:rows f xs=(rows f xs).take (i*sz)++(f (xs.getD i d)++(rows f xs).drop (i*sz+sz)):=by
    rw[←dD hf d hi, ←List.drop_drop,List.take_append_drop,List.take_append_drop]
  conv=>lhs;rw[h1]
  have ht:((rows f xs).take (i*sz)).length=i*sz:=by rw[List.length_take,aP hf];omega
  rw[List.set_append_right _ _ Om,ht,Nat.add_sub_cancel_left,List.set_append_left _ _ (by rw[hf];exact he),List.append_assoc]
end
def App (k:IntKind) (xs:List Nat) (n:Nat) (v:Value) (l':List aV):Prop:=∃q b o cs cap,v=.slice q n cap∧GS q b o cs 1 cap∧n≤cap∧cs.take n=ae k xs∧xs.length=n∧l'=[⟨b,o,cs,none⟩]
def yn (k:IntKind) (Φ:List Nat→Prop) (v:Value) (l':List aV):Prop:=∃q b o cs cap xs n,v=.slice q n cap∧GS q b o cs 1 cap∧n≤cap∧cs.take n=ae k xs∧xs.length=n∧Φ xs∧l'=[⟨b,o,cs,none⟩]
theorem yn.mk {k:IntKind} {Φ:List Nat→Prop} {P:List Nat} {m:Nat} {q:Option Addr} {b o cap:Nat} {cs:List Value} (hg:GS q b o cs 1 cap) (hc:m≤cap) (hp:cs.take m=ae k P) (hl:P.length=m) (h:Φ P):yn k Φ (.slice q m cap) [⟨b,o,cs,none⟩]:=⟨q,b,o,cs,cap,P,m,rfl,hg,hc,hp,hl,h,rfl⟩
theorem yn.whole {k:IntKind} {Φ:List Nat→Prop} {P:List Nat} {m b:Nat} (hl:P.length=m) (h:Φ P):yn k Φ (.slice (some ⟨b,0,none⟩) m m) [⟨b,0,ae k P,none⟩]:=
  ⟨_,b,0,_,m,P,m,rfl,⟨by simp[hl],.inl rfl⟩,Nat.le_refl _,List.take_of_length_le (by simp[hl]),hl,h,rfl⟩
def bls (xs:List Bool):List Value:=xs.map .bool
@[simp] theorem UK (xs:List Bool):(bls xs).length=xs.length:=by simp[bls]
section
variable {P:Program} {K:Kx} {Q:Exit→Act→World→Prop} {ρ:bx} {l r:List aV} {o:Oper} {v:Value} {x y z:Operand} {t e n m:Nat} {k:IntKind}
theorem Qj {c:Call} {f:FuncId} {args:List Value} {lc rest rc:List aV} {fo:Value→List aV→Prop} {d:Nat} (is:List Nat) (vF:bR P f args lc rc fo) (ho:o.op=.call c) (hf:c.callee=.value (.func f)) (jj:evs ρ c.args.toList=some args)
    (hl:pickS is l=some (lc,rest)) (Qb:∀s ∈ rc,s ∈ rest++r) (hd:o.dst=some d) (hn:Nat.blt d K.n=true):
    nN P K ρ l r o (fun ρ' l'=>∃v zY,fo v zY∧ρ'=(d,v)::ρ∧l'=zY++rest):=by
  intro a w ha nx Q pY;have hA:=ha.perm (nR _ _ _ _ hl);have hca:=vF.run w (hA.st.SQ Qb);have nS:(c.args.map a.eval)=args.toArray:=by
    have:=rh ha.fr _ _ jj;apply Array.toList_inj.1;simpa using this
  have e:(execOp a.eval o).run P w=.ok (.enter f args.toArray) w:=by
    simp[execOp,ho,resolve,hf,nS,Act.eval,Deferred.ofValue,invoke,sq vF.can]
  unfold Oper.wp;rw[e];simp only[Oper.upon];refine hca.mono fun e w' hE=>?_
  obtain⟨v,zY,rfl,hP,hk,kt,GZ⟩:=hE.out;simp only[hd];exact pY _ _ ⟨(d,v)::ρ,zY++rest,⟨v,zY,hP,rfl,rfl⟩,(hA.yT Qb hk kt GZ).put hn v⟩
end
section
variable {P:Program} {ρ:bx} {o:Oper} {x:Operand} {ty:TypeId} {a:Int}
end
theorem int_eq {k:IntKind} {a b:Int} (h:a=b):Value.int k a=Value.int k b:=by rw[h]
theorem ga {P:Program} {ρ:bx} {l r:List aV} {o:Oper} {u v:Value} (h:rU P ρ l r o u) (e:u=v):rU P ρ l r o v:=e▸h
def f3 (c:Nat × Nat × Nat):List Value:=[.int .i64 ((c.1:Nat):Int),.int .i64 ((c.2.1:Nat):Int),.int .i64 ((c.2.2:Nat):Int)]
theorem mO (c:Nat × Nat × Nat):(f3 c).length=3:=rfl
theorem UL (c:Nat × Nat × Nat):((f3 c).all fun u=>u.oneCell')=true:=rfl
theorem wH {α:Type} {f:α→List Value} {sz n i:Nat} {cs:List Value} {xs:List α} (hf:∀x,(f x).length=sz) (d:α) (h:cs.take (n*sz)=rows f xs) (hl:xs.length=n) (hi:i<n):(cs.drop (i*sz)).take sz=f (xs.getD i d):=by
  rw[←dD hf d Om, ←h,List.drop_take,List.take_take];have:i*sz+sz≤n*sz:=by rw[←Nat.succ_mul];exact Nat.mul_le_mul_right _ hi
  rw[Nat.min_eq_left Om]
section
variable {P:Program} {K:Kx} {Q:Exit→Act→World→Prop} {ρ:bx} {l r:List aV} {o:Oper} {v:Value} {x y z:Operand} {t n m cap sz d:Nat}
theorem UM {α:Type} {f:α→List Value} {xs:List α} {y:α} {ca:Call} {q q2:Option Addr} {b o' c2 e qs:Nat} {cs zs:List Value} {sh:Option (TypeId × Nat)} (hf:∀x,(f x).length=sz) (h1:∀x,((f x).all fun u=>u.oneCell')=true) (i:Nat) (ho:o.op=.call ca) (hc:ca.callee=.builtin .append) (jj:evs ρ ca.args.toList=some [.slice q n cap,.slice q2 1 c2]) (oB:ca.argTypes= #[t,t]) (hP:fe P t=some (e,zs,sz,qs)) (hz:zs.length=sz)
    (hs:nthS i l=some ⟨b,o',cs,sh⟩) (hg:GS q b o' cs sz cap) (hp:cs.take (n*sz)=rows f xs) (qt:Src l r q2 (f y)) (hn:n≤cap∧0<sz∧(n+1)*qs≤140737488355328∧n+1≤9223372036854775807) (hd:o.dst=some d) (uQ:Nat.blt d K.n=true):
    nN P K ρ l r o (fun ρ' l'=>∃q' b' o' lb lR,GS q' b' o' lb sz lR∧n+1≤lR∧lb.take ((n+1)*sz)=rows f (xs++[y])∧ρ'=(d,.slice q' (n+1) lR)::ρ∧l'=setS i ⟨b',o',lb,none⟩ l):=by
  intro a w ha nx Q pY;refine JL (K:=K) i ho hc jj oB hP hz hs hg qt ⟨hn.1,hn.2.1,hn.2.2.1,hn.2.2.2⟩ (by rw[hf,Nat.one_mul]) (h1 y) hd uQ a w ha nx Q fun a' w' ⟨ρ',l',⟨q',b',o'',lb,lR,h1,h2,h3,h4,h5⟩,h6⟩=>pY a' w' ⟨ρ',l',⟨q',b',o'',lb,lR,h1,h2,?_,h4,h5⟩,h6⟩
  rw[h3,hp,uY];simp[rows]
end
def Qk (Φ:List (Nat × Nat × Nat)→Prop) (v:Value) (l':List aV):Prop:=∃q b o cs cap xs n,v=.slice q n cap∧GS q b o cs 3 cap∧n≤cap∧cs.take (n*3)=rows f3 xs∧xs.length=n∧Φ xs∧l'=[⟨b,o,cs,none⟩]
theorem Qk.mk {Φ:List (Nat × Nat × Nat)→Prop} {P:List (Nat × Nat × Nat)} {m:Nat} {q:Option Addr} {b o cap:Nat} {cs:List Value} (hg:GS q b o cs 3 cap) (hc:m≤cap) (hp:cs.take (m*3)=rows f3 P) (hl:P.length=m) (h:Φ P):Qk Φ (.slice q m cap) [⟨b,o,cs,none⟩]:=⟨q,b,o,cs,cap,P,m,rfl,hg,hc,hp,hl,h,rfl⟩
theorem ky (xs:List Nat) (k a:Nat):∀b,tailV xs k (a+b)=tailV xs k a+tailV xs (k+a) b*2^(8*a)
  |0=>by simp[tailV]
  |b+1=>by
    rw[←Nat.add_assoc];simp only[tailV,ky xs k a b,Nat.add_mul,Nat.mul_add,Nat.pow_add,Nat.add_assoc];congr 2;rw[Nat.mul_comm (2^(8*a)),Nat.mul_assoc]
theorem jl {xs ys:List Nat} {k k':Nat}:∀n,(∀i,i<n→xs.getD (k+i) 0=ys.getD (k'+i) 0)→tailV xs k n=tailV ys k' n
  |0,_=>rfl
  |n+1,h=>by
    simp only[tailV];rw[jl n (fun i hi=>h i Om),h n Om]
theorem aH {xs:List Nat} {i j v:Nat} (h:i<xs.length):(xs.set i v).getD j 0=if i=j then v else xs.getD j 0:=by
  simp only[List.getD_eq_getElem?_getD,List.getElem?_set];split
  · rename_i e;subst e;simp[h]
  · rfl
theorem y5 {xs:List Nat} {j v:Nat} (hj:j<xs.length):∀n,j<n→tailV (xs.set j v) 0 n+xs.getD j 0*2^(8*j)=tailV xs 0 n+v*2^(8*j)
  |0,h=>by omega
  |n+1,h=>by
    simp only[tailV,Nat.zero_add];rw[aH hj];by_cases e:j=n
    · subst e;rw[if_pos rfl];have:tailV (xs.set j v) 0 j=tailV xs 0 j:=jl j fun i hi=>by rw[aH hj,if_neg Om]
      omega
    · rw[if_neg e];have:=y5 (v:=v) hj n Om;omega
theorem uh {xs:List Nat} (h:Bytes xs) (k:Nat) {m n:Nat} (hm:m≤n):tailV xs k n%2^(8*m)=tailV xs k m:=by
  obtain⟨d,rfl⟩:∃d,n=m+d:=⟨n-m,Om⟩;rw[ky,Nat.add_mul_mod_self_right,Nat.mod_eq_of_lt (gp h k m)]
theorem rq {xs:List Nat} (h:Bytes xs) {j n:Nat} (hj:j<n):tailV xs 0 n/2^(8*j)%256=xs.getD j 0:=by
  obtain⟨d,rfl⟩:∃d,n=(j+1)+d:=⟨n-(j+1),Om⟩;have hx:=h.at_ j;have ht:=gp h 0 j;have p:0<2^(8*j):=Nat.pow_pos Om;rw[ky];simp only[tailV,Nat.zero_add];rw[show 8*(j+1)=8+8*j by omega,Nat.pow_add, ←Nat.mul_assoc,Nat.add_assoc, ←Nat.add_mul,Nat.add_mul_div_right _ _ p,Nat.div_eq_of_lt ht];rw[Nat.zero_add,show(2:Nat)^8=256 from rfl,Nat.add_mul_mod_self_right,Nat.mod_eq_of_lt hx]
theorem Pos.start {xs:List Nat} {k len t:Nat} (hb:Bytes xs) (ht:4≤t) (hl:1≤len):Pos xs k len (BR.start t xs k len) (8*len) (tailV xs k len)∧((BR.start t xs k len).rd≤32∨(BR.start t xs k len).off=0):=by
  unfold BR.start;split
  · rename_i h8;refine⟨⟨⟨Oi,n1 hb _,Oi⟩,Oi,Oz,my xs (k+(len-8)),Oi,by simpa using n1 hb _,?_⟩,.inl Oi⟩;show tailV xs k len=my xs (k+(len-8))*2^(8*(len-8))+tailV xs k (len-8);rw[BB hb];have:=ky xs k (len-8) 8;rw[show len-8+8=len by omega] at this;omega
  · rename_i h8;have h0:Pos xs k len ⟨len,0,64⟩ (8*len) (tailV xs k len):=⟨⟨Nat.le_refl _,Oi,Oi⟩,Oi,Oi,0,Oi,Oi,Oi⟩;obtain⟨h1,UC⟩:=h0.fill (t:=t) hb ht (fun _ _=>Oz);have hs:=BR.rn (t:=t) (xs:=xs) (k:=k) ht (show len<8 by omega);exact h1.fill hb ht (fun _ _=>hs)
theorem Pos.init {xs:List Nat} {k len t:Nat} (hb:Bytes xs) (ht:4≤t) (hl:1≤len) (h0:0<xs.getD (k+(len-1)) 0):
    Pos xs k len (BR.init t xs k len) (8*(len-1)+(aj (xs.getD (k+(len-1)) 0)-1)) (tailV xs k len%2^(8*(len-1)+(aj (xs.getD (k+(len-1)) 0)-1))):=by
  obtain⟨h,hr⟩:=Pos.start (t:=t) (k:=k) hb ht hl;have hx:=hb.at_ (k+(len-1));have h8:aj (xs.getD (k+(len-1)) 0)≤8:=cW Om;have h1:=dk h0;have lz:(BR.start t xs k len).rd+(8-(aj (xs.getD (k+(len-1)) 0)-1))≤64:=by
    rcases hr with hr|hr
    · omega
    · have:=h.n;rw[hr] at this;omega
  have:=h.qK hb (m:=8-(aj (xs.getD (k+(len-1)) 0)-1)) Om lz;rw[show 8*len-(8-(aj (xs.getD (k+(len-1)) 0)-1))=8*(len-1)+(aj (xs.getD (k+(len-1)) 0)-1) by omega] at this;exact this
theorem y6 {n r:Nat} (h:r<2^n):aj (2^n+r)=n+1:=by
  have h1:=cW (n:=2^n+r) (k:=n+1) (by rw[Nat.pow_succ];omega);have h2:=gM (2^n+r);rcases Nat.lt_or_ge n (aj (2^n+r)) with h|h
  · omega
  · have:=Nat.pow_le_pow_right (n:=2) Om h;omega
theorem Pos.sF {xs:List Nat} {k len t n R:Nat} (hb:Bytes xs) (ht:4≤t) (hl:len=n/8+1) (hR:R<2^n) (hv:tailV xs k len=2^n+R):
    Pos xs k len (BR.init t xs k len) n R∧0<xs.getD (k+(len-1)) 0:=by
  subst hl;simp only[tailV] at hv;rw[Nat.add_sub_cancel];have x9:=gp hb k (n/8);generalize hx:xs.getD (k+n/8) 0=x at hv;have hp:0<2^(8*(n/8)):=Nat.pow_pos Om;have e:(2:Nat)^n=2^(n%8)*2^(8*(n/8)):=by rw[←Nat.pow_add];congr 1;omega
  have Dc:x=2^(n%8)+R/2^(8*(n/8)):=by
    have h1:x=(tailV xs k (n/8)+x*2^(8*(n/8)))/2^(8*(n/8)):=by rw[Nat.add_mul_div_right _ _ hp,Nat.div_eq_of_lt x9,Nat.zero_add]
    rw[h1,hv,e,Nat.add_comm,Nat.add_mul_div_right _ _ hp,Nat.add_comm]
  have hr8:R/2^(8*(n/8))<2^(n%8):=by rw[Nat.div_lt_iff_lt_mul hp, ←e];exact hR
  have z9:aj x=n%8+1:=by rw[Dc];exact y6 hr8
  have sG:0<x:=by rw[Dc];exact Nat.lt_of_lt_of_le (Nat.pow_pos Om) (Nat.le_add_right _ _)
  have h:=Pos.init (t:=t) (k:=k) (len:=n/8+1) hb ht Om (by rw[Nat.add_sub_cancel,hx];exact sG);rw[Nat.add_sub_cancel,hx,z9,show 8*(n/8)+(n%8+1-1)=n by omega] at h;have hm:tailV xs k (n/8+1)%2^n=R:=by
    simp only[tailV];rw[hx,hv,Nat.add_comm,Nat.add_mod_right,Nat.mod_eq_of_lt hR]
  rw[hm] at h;exact⟨h,sG⟩
def bitsV:List Nat→Nat
  |[]=>0
  |b::bs=>b*2^bs.length+bitsV bs
def jt (bs:List Nat):Prop:=∀b ∈ bs,b<2
theorem lC:∀as bs:List Nat,bitsV (as++bs)=bitsV as*2^bs.length+bitsV bs
  |[],bs=>by simp[bitsV]
  |a::as,bs=>by
    simp only[List.cons_append,bitsV,lC as bs,List.length_append,Nat.add_mul,Nat.pow_add];rw[Nat.mul_assoc];omega
theorem jt.append {as bs:List Nat} (h:jt as) (k:jt bs):jt (as++bs):=fun x hx=>by
  rcases List.mem_append.1 hx with h'|h'
  · exact h x h'
  · exact k x h'
theorem UN {b x p:Nat} (hx:x<2) (hz:b%2^(p+1)=0):b|||x*2^p=b+x*2^p:=by
  have hb:b=b/2^(p+1)*2^(p+1):=by
    have:=Nat.div_add_mod b (2^(p+1));rw[hz,Nat.add_zero,Nat.mul_comm] at this;exact this.symm
  have eU:x*2^p<2^(p+1):=by
    have:x*2^p≤1*2^p:=Nat.mul_le_mul_right _ Om;have:=Nat.pow_pos (n:=p) (show 0<2 by omega);rw[Nat.pow_succ];omega
  rw[hb,pe eU]
theorem JW {out:List Nat} (hb:Bytes out) {n at_:Nat} (hn:at_/8<n) (hz:tailV out 0 n%2^(at_+1)=0):out.getD (at_/8) 0%2^(at_%8+1)=0:=by
  rw[←rq hb hn];have h1:tailV out 0 n=tailV out 0 n/2^(at_+1)*2^(at_+1):=by
    have:=Nat.div_add_mod (tailV out 0 n) (2^(at_+1));rw[hz,Nat.add_zero,Nat.mul_comm] at this;exact this.symm
  have p:0<2^(8*(at_/8)):=Nat.pow_pos Om;rw[h1,show at_+1=(at_%8+1)+8*(at_/8) by omega,Nat.pow_add, ←Nat.mul_assoc,Nat.mul_div_cancel _ p];rw[show(256:Nat)=2^(at_%8+1)*2^(7-at_%8) by rw[←Nat.pow_add,show at_%8+1+(7-at_%8)=8 by omega]];rw[Nat.mod_mul_right_mod,Nat.mul_mod_left]
theorem Ql {out:List Nat} (hb:Bytes out) {n at_ x:Nat} (hl:out.length=n) (hn:at_/8<n) (hx:x<2) (hz:tailV out 0 n%2^(at_+1)=0):
    tailV (out.set (at_/8) (out.getD (at_/8) 0|||x*2^(at_%8))) 0 n=tailV out 0 n+x*2^at_∧Bytes (out.set (at_/8) (out.getD (at_/8) 0|||x*2^(at_%8)))∧out.getD (at_/8) 0|||x*2^(at_%8)<256:=by
  have hz':=JW hb hn hz;have ho:=UN hx hz';have h8:x*2^(at_%8)<256:=by
    have h1:x*2^(at_%8)≤1*2^(at_%8):=Nat.mul_le_mul_right _ Om;have h2:(2:Nat)^(at_%8)≤2^7:=Nat.pow_le_pow_right Om Om;omega
  have eU:=ri (hb.at_ (at_/8)) h8;refine⟨?_,?_,eU⟩
  · have:=y5 (xs:=out) (v:=out.getD (at_/8) 0|||x*2^(at_%8)) (j:=at_/8) Om n hn;rw[ho,Nat.add_mul,Nat.mul_assoc, ←Nat.pow_add,show at_%8+8*(at_/8)=at_ by omega] at this;rw[ho];omega
  · intro y hy;rcases List.mem_or_eq_of_mem_set hy with h|h
    · exact hb y h
    · subst h;exact eU
def BR.ld (xs:List Nat) (k:Nat) (s:BR):BR:=⟨s.off-4,s.val*2^32%18446744073709551616|||dR xs (k+(s.off-4)),s.rd-32⟩
def BR.jR (xs:List Nat) (k:Nat) (s:BR):BR:=if s.rd<32 then s else s.ld xs k
def BR.z' (xs:List Nat) (k:Nat) (s:BR):BR:=⟨s.off-1,s.val*2^8%18446744073709551616|||xs.getD (k+(s.off-1)) 0,s.rd-8⟩
def BR.floads (xs:List Nat) (k:Nat):Nat→BR→BR
  |0,s=>s
  |n+1,s=>(BR.floads xs k n s).z' xs k
def BR.fG (xs:List Nat) (k:Nat) (s:BR):BR:=if s.rd<32 then s else if 4<s.off then s.ld xs k else BR.floads xs k s.off s
def BR.lh (xs:List Nat) (k len:Nat):BR:=if 8≤len then ⟨len-8,my xs (k+(len-8)),0⟩ else BR.fG xs k (BR.fG xs k ⟨len,0,64⟩)
def BR.gj (xs:List Nat) (k len:Nat):BR:=⟨(BR.lh xs k len).off,(BR.lh xs k len).val,((BR.lh xs k len).rd+(8-(aj (xs.getD (k+(len-1)) 0)-1)))%256⟩
def BR.iL (s:BR) (n:Nat):Nat:=s.val*2^(s.rd&&&63)%18446744073709551616/2^((64-n)&&&63)%65536
def BR.gb (s:BR) (n:Nat):BR:=⟨s.off,s.val,(s.rd+n)%256⟩
structure iA (xs:List Nat) (k len:Nat) (s:BR) (n R:Nat):Prop where
  ok:s.OK len
  rd:s.rd≤64
  n:n=8*s.off+(64-s.rd)
  R:R=s.val%2^(64-s.rd)*2^(8*s.off)+tailV xs k s.off
section
variable {xs:List Nat} {k len n R:Nat} {s:BR}
theorem iA.lt (h:iA xs k len s n R) (hb:Bytes xs):R<2^n:=by
  have ht:=gp hb k s.off;have h1:=Nat.mod_lt s.val (Nat.pow_pos (n:=64-s.rd) (show 0<2 by omega));have h2:s.val%2^(64-s.rd)*2^(8*s.off)≤(2^(64-s.rd)-1)*2^(8*s.off):=Nat.mul_le_mul_right _ Om;rw[Nat.sub_mul,Nat.one_mul, ←Nat.pow_add] at h2;have h3:2^(8*s.off)≤2^(64-s.rd+8*s.off):=Nat.pow_le_pow_right Om Om;rw[h.R,h.n,Nat.add_comm (8*s.off)];omega
theorem JX {v x e r:Nat} (hx:x<2^e) (he:e≤r) (hr:r≤64):(v*2^e%18446744073709551616|||x)%2^(64-(r-e))=v%2^(64-r)*2^e+x:=by
  have Db:(18446744073709551616:Nat)=2^(64-e)*2^e:=by rw[←Nat.pow_add,show 64-e+e=64 by omega]
  rw[Db,Nat.mul_mod_mul_right,pe hx,show 64-(r-e)=(64-r)+e by omega,Nat.pow_add];have hd:2^(64-r)∣2^(64-e):=Nat.pow_dvd_pow 2 Om;rw[Nat.add_mod,Nat.mul_mod_mul_right,Nat.mod_mod_of_dvd _ hd];have Dc:x%(2^(64-r)*2^e)=x:=Nat.mod_eq_of_lt (Nat.lt_of_lt_of_le hx (Nat.le_mul_of_pos_left _ (Nat.pow_pos Om)));rw[Dc];refine Nat.mod_eq_of_lt ?_;have h1:=Nat.mod_lt v (Nat.pow_pos (n:=64-r) (show 0<2 by omega));have h2:v%2^(64-r)*2^e≤(2^(64-r)-1)*2^e:=Nat.mul_le_mul_right _ Om;rw[Nat.sub_mul,Nat.one_mul] at h2;have h3:2^e≤2^(64-r)*2^e:=Nat.le_mul_of_pos_left _ (Nat.pow_pos Om);omega
theorem iA.f' (h:iA xs k len s n R) (hb:Bytes xs) (hr:8≤s.rd) (ho:0<s.off):iA xs k len (s.z' xs k) n R:=by
  have hx:=hb.at_ (k+(s.off-1));have lz:=h.rd;have mA:=h.ok.off;refine⟨⟨by show s.off-1≤len;omega,cY (Nat.mod_lt _ Od) Om,by show s.rd-8<256;omega⟩,by show s.rd-8≤64;omega,by rw[h.n];show _=8*(s.off-1)+(64-(s.rd-8));omega,?_⟩;show R=(s.val*2^8%18446744073709551616|||xs.getD (k+(s.off-1)) 0)%2^(64-(s.rd-8))*2^(8*(s.off-1))+tailV xs k (s.off-1);rw[JX (e:=8) Om hr lz,h.R,wx ho,Nat.add_mul,Nat.mul_assoc, ←Nat.pow_add,show 8+8*(s.off-1)=8*s.off by omega];omega
theorem BR.kz:∀n,(BR.floads xs k n s).off=s.off-n
  |0=>rfl
  |n+1=>by simp[BR.floads,BR.z',BR.kz n];omega
theorem BR.p9:∀n,(BR.floads xs k n s).rd=s.rd-8*n
  |0=>rfl
  |n+1=>by simp[BR.floads,BR.z',BR.p9 n];omega
theorem iA.loads (h:iA xs k len s n R) (hb:Bytes xs):∀m,8*m≤s.rd→m≤s.off→iA xs k len (BR.floads xs k m s) n R
  |0,_,_=>h
  |m+1,h1,h2=>by
    have ih:=iA.loads h hb m Om Om;exact ih.f' hb (by rw[BR.p9];omega) (by rw[BR.kz];omega)
theorem iA.gi (h:iA xs k len s n R) (hb:Bytes xs) (hr:32≤s.rd) (ho:4≤s.off):iA xs k len (s.ld xs k) n R:=by
  have hx:=fE hb (k+(s.off-4));have lz:=h.rd;have mA:=h.ok.off;refine⟨⟨by show s.off-4≤len;omega,cY (Nat.mod_lt _ Od) Om,by show s.rd-32<256;omega⟩,by show s.rd-32≤64;omega,by rw[h.n];show _=8*(s.off-4)+(64-(s.rd-32));omega,?_⟩;show R=(s.val*2^32%18446744073709551616|||dR xs (k+(s.off-4)))%2^(64-(s.rd-32))*2^(8*(s.off-4))+tailV xs k (s.off-4);have ht:tailV xs k s.off=tailV xs k (s.off-4)+dR xs (k+(s.off-4))*2^(8*(s.off-4)):=by
    have:=ky xs k (s.off-4) 4;rw[show s.off-4+4=s.off by omega] at this;rw[this,wv hb];simp only[tailV,Nat.add_zero];congr 2;omega
  rw[JX (e:=32) Om hr lz,h.R,ht,Nat.add_mul,Nat.mul_assoc, ←Nat.pow_add,show 32+8*(s.off-4)=8*s.off by omega];omega
theorem iA.jR (h:iA xs k len s n R) (hb:Bytes xs) (ho:32≤s.rd→4≤s.off):iA xs k len (s.jR xs k) n R∧(s.jR xs k).rd≤32∧s.off≤(s.jR xs k).off+4∧(s.jR xs k).off≤s.off:=by
  unfold BR.jR;split
  · exact⟨h,Om,Om,Om⟩
  · exact⟨h.gi hb Om (ho Om),by have:=h.rd;simp[BR.ld];omega,by simp[BR.ld];omega,by simp[BR.ld]⟩
theorem iA.fG (h:iA xs k len s n R) (hb:Bytes xs) (h8:32≤s.rd→s.off<5→8*s.off≤s.rd):iA xs k len (BR.fG xs k s) n R∧((BR.fG xs k s).rd≤32∨(BR.fG xs k s).off=0)∧(BR.fG xs k s).off≤s.off:=by
  unfold BR.fG;split
  · exact⟨h,Om,Om⟩
  · split
    · exact⟨h.gi hb Om Om,by have:=h.rd;simp[BR.ld];omega,by simp[BR.ld]⟩
    · exact⟨h.loads hb _ (h8 Om Om) (Nat.le_refl _),.inr (by rw[BR.kz];omega),by rw[BR.kz];omega⟩
theorem iA.skip {m:Nat} (h:iA xs k len s n R) (hb:Bytes xs) (hr:s.rd+m≤64):iA xs k len (s.gb m) (n-m) (R%2^(n-m)):=by
  have lz:(s.gb m).rd=s.rd+m:=by simp[BR.gb];omega
  refine⟨⟨h.ok.off,h.ok.val,by rw[lz];omega⟩,Om,by rw[h.n,lz];show _=8*s.off+_;omega,?_⟩;rw[lz];show R%2^(n-m)=s.val%2^(64-(s.rd+m))*2^(8*s.off)+tailV xs k s.off;have hn:n-m=(64-s.rd-m)+8*s.off:=by rw[h.n];omega
  have ht:=gp hb k s.off;rw[h.R,hn,Nat.pow_add];have e1:s.val%2^(64-s.rd)*2^(8*s.off)+tailV xs k s.off=2^(8*s.off)*(s.val%2^(64-s.rd))+tailV xs k s.off:=by rw[Nat.mul_comm]
  rw[e1,Nat.mul_comm (2^(64-s.rd-m)),Nat.mod_mul,Nat.mul_add_mod,Nat.mod_eq_of_lt ht,Nat.mul_add_div (Nat.pow_pos Om),Nat.div_eq_of_lt ht,Nat.add_zero];rw[Nat.mod_mod_of_dvd _ (Nat.pow_dvd_pow 2 Om),show 64-s.rd-m=64-(s.rd+m) by omega,Nat.mul_comm,Nat.add_comm]
theorem iA.bits {m:Nat} (h:iA xs k len s n R) (hb:Bytes xs) (hm:1≤m) (akt:m≤16) (hr:s.rd+m≤64):s.iL m=R/2^(n-m)∧s.iL m<2^m:=by
  have ht:=gp hb k s.off;have pos:∀m:Nat,0<2^m:=fun m=>Nat.pow_pos Om
  have e1:s.rd&&&63=s.rd:=by rw[show(63:Nat)=2^6-1 from rfl,Nat.and_two_pow_sub_one_eq_mod];exact Nat.mod_eq_of_lt Om
  have e2:(64-m)&&&63=64-m:=by rw[show(63:Nat)=2^6-1 from rfl,Nat.and_two_pow_sub_one_eq_mod];exact Nat.mod_eq_of_lt Om
  have Db:(18446744073709551616:Nat)=2^(64-s.rd)*2^s.rd:=by rw[←Nat.pow_add,show 64-s.rd+s.rd=64 by omega]
  have key:s.val*2^(s.rd&&&63)%18446744073709551616/2^((64-m)&&&63)=R/2^(n-m):=by
    rw[e1,e2,Db,Nat.mul_mod_mul_right,show 64-m=(64-m-s.rd)+s.rd by omega,Nat.pow_add,Nat.mul_div_mul_right _ _ (pos _)];rw[h.R,show n-m=8*s.off+(64-m-s.rd) by rw[h.n];omega,Nat.pow_add, ←Nat.div_div_eq_div_mul,Nat.add_comm,Nat.add_mul_div_right _ _ (pos _),Nat.div_eq_of_lt ht,Nat.zero_add]
  have eU:R/2^(n-m)<2^m:=by
    rw[Nat.div_lt_iff_lt_mul (pos _), ←Nat.pow_add,show m+(n-m)=n by rw[h.n];omega];exact h.lt hb
  have yo:(2:Nat)^m≤2^16:=Nat.pow_le_pow_right Om akt;unfold BR.iL;rw[key,Nat.mod_eq_of_lt Om];exact⟨rfl,eU⟩
theorem BR.uZ (hl:len<8):8*(BR.fG xs k ⟨len,0,64⟩).off≤(BR.fG xs k ⟨len,0,64⟩).rd:=by
  unfold BR.fG;rw[if_neg Oi];split
  · simp[BR.ld];omega
  · rw[BR.kz,BR.p9];simp
theorem iA.start (hb:Bytes xs) (hl:1≤len):iA xs k len (BR.lh xs k len) (8*len) (tailV xs k len)∧((BR.lh xs k len).rd≤32∨(BR.lh xs k len).off=0):=by
  unfold BR.lh;split
  · rename_i h8;refine⟨⟨⟨Oi,n1 hb _,Oi⟩,Oi,Oz,?_⟩,.inl Oi⟩;show tailV xs k len=my xs (k+(len-8))%2^64*2^(8*(len-8))+tailV xs k (len-8);rw[Nat.mod_eq_of_lt (n1 hb _),BB hb];have:=ky xs k (len-8) 8;rw[show len-8+8=len by omega] at this;omega
  · rename_i h8;have h0:iA xs k len ⟨len,0,64⟩ (8*len) (tailV xs k len):=⟨⟨Nat.le_refl _,Oi,Oi⟩,Oi,Oi,Oi⟩;obtain⟨h1,UC⟩:=h0.fG hb (fun _ _=>Oz);have hs:=BR.uZ (xs:=xs) (k:=k) (show len<8 by omega);obtain⟨h2,h3,_⟩:=h1.fG hb (fun _ _=>hs);exact⟨h2,h3⟩
theorem iA.sF {n R:Nat} (hb:Bytes xs) (hl:len=n/8+1) (hR:R<2^n) (hv:tailV xs k len=2^n+R):
    iA xs k len (BR.gj xs k len) n R∧0<xs.getD (k+(len-1)) 0∧(BR.gj xs k len).rd≤40∨iA xs k len (BR.gj xs k len) n R∧0<xs.getD (k+(len-1)) 0∧(BR.gj xs k len).off=0:=by
  subst hl;obtain⟨hS,hr⟩:=iA.start (k:=k) (len:=n/8+1) hb Om;simp only[tailV] at hv;unfold BR.gj;rw[Nat.add_sub_cancel];have x9:=gp hb k (n/8);have hm:tailV xs k (n/8+1)%2^n=R:=by
    simp only[tailV];rw[hv,Nat.add_comm,Nat.add_mod_right,Nat.mod_eq_of_lt hR]
  generalize hx:xs.getD (k+n/8) 0=x at hv;have hp:0<2^(8*(n/8)):=Nat.pow_pos Om;have e:(2:Nat)^n=2^(n%8)*2^(8*(n/8)):=by rw[←Nat.pow_add];congr 1;omega
  have Dc:x=2^(n%8)+R/2^(8*(n/8)):=by
    have h1:x=(tailV xs k (n/8)+x*2^(8*(n/8)))/2^(8*(n/8)):=by rw[Nat.add_mul_div_right _ _ hp,Nat.div_eq_of_lt x9,Nat.zero_add]
    rw[h1,hv,e,Nat.add_comm,Nat.add_mul_div_right _ _ hp,Nat.add_comm]
  have hr8:R/2^(8*(n/8))<2^(n%8):=by rw[Nat.div_lt_iff_lt_mul hp, ←e];exact hR
  have z9:aj x=n%8+1:=by rw[Dc];exact y6 hr8
  have sG:0<x:=by rw[Dc];exact Nat.lt_of_lt_of_le (Nat.pow_pos Om) (Nat.le_add_right _ _)
  rw[z9];have lz:(BR.lh xs k (n/8+1)).rd+(8-(n%8+1-1))≤64:=by
    rcases hr with hr|hr
    · omega
    · have:=hS.n;rw[hr] at this;omega
  have hk:=hS.skip hb lz;rw[show 8*(n/8+1)-(8-(n%8+1-1))=n by omega,hm] at hk;rcases hr with hr|hr
  · exact .inl ⟨hk,sG,by show _%256≤40;omega⟩
  · exact .inr ⟨hk,sG,hr⟩
end
end Go.Proofs.YtaphmhiddngdoaaGreatDoor
