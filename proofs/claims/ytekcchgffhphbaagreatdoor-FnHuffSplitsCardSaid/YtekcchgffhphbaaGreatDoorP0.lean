/- The walk's own engine. -/
import Derived.Still
import Derived.OrdersHeld
import Derived.Tactics
import Derived.KernelRfl
import Derived.Below
import Derived.IntWalk
import Derived.ArgAppend
import Derived.Laws.OwnMore
set_option linter.unusedVariables false
set_option linter.unusedSimpArgs false
set_option linter.unnecessarySimpa false
namespace Go.Proofs.YtekcchgffhphbaaGreatDoor
theorem Om {p:Prop} (h:p:=by omega):p:=h
theorem Oa {p:Prop} (h:p:=by assumption):p:=h
theorem Od {p:Prop} (h:p:=by decide):p:=h
theorem Oy {p:Prop} (h:p:=by first|omega|(simp;omega)|simp):p:=h
theorem Oz {p:Prop} (h:p:=by simp;omega):p:=h
theorem Ou {p:Prop} (h:p:=by first|omega|(simp;omega)):p:=h
theorem Ow {p:Prop} (h:p:=by first|rfl|(simp;omega)|simp_all):p:=h
theorem Oi {p:Prop} (h:p:=by simp):p:=h
theorem Oj {p:Prop} (h:p:=by first|omega|(rw[List.length_set];omega)|(simp;omega)|simp):p:=h
theorem Ok {p:Prop} (h:p:=by first|omega|(rw[List.length_set];omega)|(simp;omega)):p:=h
theorem Ox {p:Prop} (h:p:=by first|rfl|assumption|(simp;omega)|simp_all):p:=h
theorem Or {p:Prop} (h:p:=by first|omega|decide):p:=h
theorem Oq {a b c d:Prop} (h1:a:=by first|omega|simp) (h2:b:=by first|omega|(simp;omega)) (h3:c:=by first|omega|(simp;omega)) (h4:d:=by first|rfl|omega|(simp;omega)|simp):a∧b∧c∧d:=⟨h1,h2,h3,h4⟩
structure aU where
  b:Nat
  o:Nat
  cs:List Value
  sh:Option (TypeId × Nat):=none
def aU.has (s:aU) (b j:Nat):Prop:=s.b=b∧s.o≤j∧j<s.o+s.cs.length
def aU.pE (s:aU) (w:World):Prop:=
  (∀j v,s.cs[j]? =some v→w.cell? ⟨s.b,s.o+j,none⟩=some v)∧
  (∀j,j<s.cs.length→w.frozen? ⟨s.b,s.o+j,none⟩=false)∧
  (∀x,s.sh=some x→w.shape? s.b=some x)
def aU.apart (s t:aU):Prop:=∀b j:Nat,s.has b j→¬t.has b j
theorem aU.apart.symm {s t:aU} (h:s.apart t):t.apart s:=fun b j h1 h2=>h b j h2 h1
structure St (l r:List aU) (w:World):Prop where
  hl:∀s ∈ l,s.pE w
  hr:∀s ∈ r,s.pE w
  pw:l.Pairwise aU.apart
  lr:∀s ∈ l,∀t ∈ r,s.apart t
structure gH (l:List aU) (w w':World):Prop where
  os:w'.os=w.os
  tape:w'.tape=w.tape
  output:w'.output=w.output
  size:w.heap.size≤w'.heap.size
  cells:∀(b:Nat) (c:Array Value) (T:TypeId) (f:Nat × Nat),w.heap[b]? =some (.cells c T f)→∃c',w'.heap[b]? =some (.cells c' T f)∧c'.size=c.size∧∀j:Nat,(∀s ∈ l,¬s.has b j)→c'[j]? =c[j]?
  other:∀(b:Nat) (o:Obj),w.heap[b]? =some o→(∀c T f,o≠Obj.cells c T f)→w'.heap[b]? =some o
theorem gH.refl (l:List aU) (w:World):gH l w w:=
  ⟨rfl,rfl,rfl,Nat.le_refl _,fun _ c _ _ h=>⟨c,h,rfl,fun _ _=>rfl⟩,fun _ _ h _=>h⟩
theorem gH.trans' {l l2:List aU} {w w1 w2:World} (h:gH l w w1) (k:gH l2 w1 w2)
    (hl:∀s ∈ l2,∀b j,s.has b j→(∃t ∈ l,t.has b j)∨w.heap.size≤b):gH l w w2:=by
  refine⟨k.os.trans h.os,k.tape.trans h.tape,k.output.trans h.output,Nat.le_trans h.size k.size,?_,?_⟩
  · intro b c T f hb;obtain⟨c1,h1,Ee,kQ⟩:=h.cells b c T f hb;obtain⟨c2,h2,HP,Cn⟩:=k.cells b c1 T f h1;refine⟨c2,h2,HP.trans Ee,fun j hj=>?_⟩;rw[Cn j ?_,kQ j hj];intro s hs hh;rcases hl s hs b j hh with ⟨t,ht,Cd⟩|wq
    · exact hj t ht Cd
    · have:b<w.heap.size:=(Array.getElem?_eq_some_iff.1 hb).1;omega
  · intro b o hb ho;exact k.other b o (h.other b o hb ho) ho
theorem gH.alloc (l:List aU) (w:World) (o:Obj):gH l w (w.alloc o):=by
  have key:∀b x,w.heap[b]? =some x→(w.alloc o).heap[b]? =some x:=fun b x hb=>by
    have fg:b<w.heap.size:=(Array.getElem?_eq_some_iff.1 hb).1;show(w.heap.push o)[b]? =_;rw[Array.getElem?_push,if_neg Om,hb]
  exact⟨rfl,rfl,rfl,Oi,fun b c T f h=>⟨c,key b _ h,rfl,fun _ _=>rfl⟩,fun b x h _=>key b x h⟩
theorem gH.setCell {l:List aU} (w:World) {b j:Nat} (v:Value) (hs:∃s ∈ l,s.has b j):gH l w (w.setCell ⟨b,j,none⟩ v):=by
  refine⟨rfl,rfl,rfl,Oi,?_,?_⟩
  · intro b' c T f hb;by_cases PQ:b=b'
    · subst PQ;refine⟨c.setIfInBounds j v,by simp[World.setCell,Array.getElem?_modify,hb],Oi,fun i hi=>?_⟩;rw[Array.getElem?_setIfInBounds];split
      · rename_i e;subst e;obtain⟨s,kL,hh⟩:=hs;exact(hi s kL hh).elim
      · rfl
    · exact⟨c,by simp[World.setCell,Array.getElem?_modify,hb,PQ],rfl,fun _ _=>rfl⟩
  · intro b' o hb ho;by_cases PQ:b=b'
    · subst PQ;cases o<;>first|exact(ho _ _ _ rfl).elim|simp[World.setCell,Array.getElem?_modify,hb]
    · simp[World.setCell,Array.getElem?_modify,hb,PQ]
theorem gH.cell {l:List aU} {w w':World} (h:gH l w w') {b j:Nat} {v:Value} (hj:∀s ∈ l,¬s.has b j) (hc:w.cell? ⟨b,j,none⟩=some v):w'.cell? ⟨b,j,none⟩=some v:=by
  unfold World.cell? at hc ⊢;cases hb:w.heap[b]? with
  |none=>simp[hb] at hc
  |some o=>
    cases o with
    |cells c T f=>
      obtain⟨c',h',_,Js⟩:=h.cells b c T f hb;simp only[hb,h'] at hc ⊢;rw[Js j hj];exact hc
    |_=>simp[hb] at hc
theorem World.QC {w:World} {b j:Nat} {v:Value} (h:w.cell? ⟨b,j,none⟩=some v):b<w.heap.size:=World.block_lt_of_cell? w _ h
theorem gH.frozen {l:List aU} {w w':World} (h:gH l w w') {b j:Nat} (hb:b<w.heap.size):w'.frozen? ⟨b,j,none⟩=w.frozen? ⟨b,j,none⟩:=by
  have HO:w.heap[b]? =some w.heap[b]:=Array.getElem?_eq_getElem hb;unfold World.frozen?;cases ho:w.heap[b] with
  |cells c T f=>
    rw[ho] at HO;obtain⟨c',h',_,_⟩:=h.cells b c T f HO;simp[HO,h']
  |_=>rw[ho] at HO;have:=h.other b _ HO Oi;simp[HO,this]
theorem gH.shape {l:List aU} {w w':World} (h:gH l w w') {b:Nat} {x:TypeId × Nat} (hx:w.shape? b=some x):w'.shape? b=some x:=by
  unfold World.shape? at hx ⊢;cases hb:w.heap[b]? with
  |none=>simp[hb] at hx
  |some o=>
    cases o with
    |cells c T f=>
      obtain⟨c',h',hs,_⟩:=h.cells b c T f hb;simp only[hb,h',hs] at hx ⊢;exact hx
    |_=>simp[hb] at hx
theorem aU.pE.lt {w:World} {s:aU} (hs:s.pE w) {b j:Nat} (h:s.has b j):b<w.heap.size:=by
  obtain⟨rfl,h1,h2⟩:=h;exact World.QC (hs.1 (j-s.o) (s.cs[j-s.o]' Om) Oi)
theorem aU.pE.Jt {l:List aU} {w w':World} {s:aU} (hs:s.pE w) (h:gH l w w') (ha:∀t ∈ l,t.apart s):s.pE w':=by
  refine⟨fun j v hj=>?_,fun j hj=>?_,fun x hx=>h.shape (hs.2.2 x hx)⟩
  · have hlen:j<s.cs.length:=by
      rcases Nat.lt_or_ge j s.cs.length with h'|h'
      · exact h'
      · simp[List.getElem?_eq_none h'] at hj
    exact h.cell (fun t ht hh=>ha t ht s.b (s.o+j) hh ⟨rfl,Om,Om⟩) (hs.1 j v hj)
  · have fg:s.b<w.heap.size:=hs.lt ⟨rfl,Nat.le_add_right s.o j,Om⟩;exact(h.frozen fg).trans (hs.2.1 j hj)
section
variable {P:Program} {ops:Array Oper} {Q:Exit→Act→World→Prop} {md:Region.Mode} {E:Nat→Bool}
def Co (P:Program) (md:Region.Mode) (ops:Array Oper) (E:Nat→Bool) (Q:Exit→Act→World→Prop):Nat→Array Bool→Act→World→Prop
  |0,listed,a,w=>Region.ready md ops listed=[]∧Q .normal a w
  |fuel+1,listed,a,w=>
    (Region.ready md ops listed=[]→Q .normal a w)∧
    ∀i ∈ Region.ready md ops listed,
      if E i then wpOp P ops Q i (Co P md ops E Q fuel (listed.setIfInBounds i true)) a w
      else stOp P ops w i (fun a'=>Co P md ops E Q fuel (listed.setIfInBounds i true) a' w) a
theorem r':∀(fuel:Nat) (listed:Array Bool) (a:Act) (w:World),Co P md ops E Q fuel listed a w→wpAny P md ops Q fuel listed a w
  |0,_,_,_,h=>h
  |fuel+1,listed,a,w,h=>⟨h.1,fun i hi=>by
      have h2:=h.2 i hi;by_cases hE:E i=true
      · rw[if_pos hE] at h2;exact wpOp_mono (fun a' w' h'=>r' fuel _ a' w' h') h2
      · rw[if_neg hE] at h2;exact wpOp_of_stOp (fun a' h'=>r' fuel _ a' w h') h2⟩
structure NB (md:Region.Mode) (ops:Array Oper) (listed:Array Bool) (i:Nat) (oi:Oper) (bh:Nat→Prop):Prop where
  un:∀j,j<ops.size→bh j→listed.getD j true=false
  chain:∀j oj,ops[j]? =some oj→bh j→j≠i→∃e ∈ oj.after,Region.binds md e=true∧bh e.on∧e.on<ops.size
  apart:∀j oj,ops[j]? =some oj→listed.getD j true=false→¬bh j→oi.apart ops oj=true
theorem wu {listed:Array Bool} {k:Nat} (h1:listed.getD k false=true) (h2:listed.getD k true=false):False:=by
  rcases Nat.lt_or_ge k listed.size with h'|h'
  · simp[h'] at h1 h2;rw[h1] at h2;cases h2
  · simp[Array.getElem?_eq_none h'] at h1
theorem NB.notReady {listed:Array Bool} {i:Nat} {oi:Oper} {bh:Nat→Prop} (h:NB md ops listed i oi bh) {j:Nat} (hj:j ∈ Region.ready md ops listed) (uY:j≠i):¬bh j:=by
  intro hb;obtain⟨tg,oj,AO,tj⟩:=mem_ready.1 hj;obtain⟨e,he,hbi,hbe,fg⟩:=h.chain j oj AO hb uY;exact wu (tj e he hbi) (h.un e.on fg hbe)
theorem NB.put {listed:Array Bool} {i:Nat} {oi:Oper} {bh:Nat→Prop} (h:NB md ops listed i oi bh) {j:Nat} (hb:¬bh j) (tg:listed.getD j true=false):NB md ops (listed.setIfInBounds j true) i oi bh:=by
  refine⟨fun k hk Tx=>?_,h.chain,fun k ok hk hl Tx=>?_⟩
  · by_cases Ju:j=k
    · subst Ju;exact(hb Tx).elim
    · rw[getD_set_ne true Ju];exact h.un k hk Tx
  · by_cases Ju:j=k
    · subst Ju;exact h.apart j ok hk tg hb
    · rw[getD_set_ne true Ju] at hl;exact h.apart k ok hk hl Tx
theorem Cp {i:Nat} {oi:Oper} {v:Value} {bh:Nat→Prop} (hi:ops[i]? =some oi) (pO:∀(j:Nat) (o:Oper) cs b,ops[j]? =some o→o.op≠ .select cs b) (hEi:E i=false) (ax8:bh i):
    ∀(fuel:Nat) (listed:Array Bool) (a:Act) (w:World),NB md ops listed i oi bh→(∀j,j<ops.size→listed.getD j true=false→E j=true→bh j)→
      i ∈ Region.ready md ops listed→YieldsAt P ops w oi v a→
      Co P md ops E Q fuel (listed.setIfInBounds i true) (a.put oi.dst v) w→Co P md ops E Q (fuel+1) listed a w:=by
  intro fuel;induction fuel with
  |zero=>
    intro listed a w rf hE _ hy H;rename_i hr;refine⟨fun h=>(by rw[h] at hr;cases hr),fun j hj=>?_⟩;by_cases AP:j=i
    · subst AP;rw[if_neg (by rw[hEi];simp)];exact hy.stOp hi H
    · have:=ready_mono hj AP;rw[H.1] at this;cases this
  |succ fuel ih=>
    intro listed a w rf adp hr hy H;refine⟨fun h=>(by rw[h] at hr;cases hr),fun j hj=>?_⟩;by_cases AP:j=i
    · subst AP;rw[if_neg (by rw[hEi];simp)];exact hy.stOp hi H
    · have h1:=H.2 j (ready_mono hj AP);obtain⟨Ev,oj,AO,tj⟩:=mem_ready.1 hj;have alA:=(Array.getElem?_eq_some_iff.1 AO).1;have Vz:=rf.notReady hj AP;have hEj:¬E j=true:=fun hE=>Vz (adp j alA Ev hE)
      rw[if_neg hEj] at h1 ⊢;have h2:=stOp_put AO (rf.apart j oj AO Ev Vz) (fun cs b=>pO i oi cs b hi) (fun cs b=>pO j oj cs b AO) hy h1;refine stOp_mono (fun a' h3=>ih (listed.setIfInBounds j true) a' w (rf.put Vz Ev) (fun k hk hl hE=>?_) (ready_mono hr (Ne.symm AP)) h3.1 ?_) h2
      · by_cases Ju:j=k
        · subst Ju;exact(hEj hE).elim
        · rw[getD_set_ne true Ju] at hl;exact adp k hk hl hE
      · rw[Array.setIfInBounds_comm _ _ AP];exact h3.2
theorem Cq {i:Nat} {oi:Oper} {v:Value} {bh:Nat→Prop} (hi:ops[i]? =some oi) (pO:∀(j:Nat) (o:Oper) cs b,ops[j]? =some o→o.op≠ .select cs b) (hEi:E i=false)
    (hQ:∀c a w,Q (.panic c) (a.put oi.dst v) w→Q (.panic c) a w):
    ∀(fuel:Nat) (listed:Array Bool) (a:Act) (w:World),NB md ops listed i oi bh→
      i ∈ Region.ready md ops listed→Yields P ops oi v a→
      Co P md ops E Q fuel (listed.setIfInBounds i true) (a.put oi.dst v) w→Co P md ops E Q (fuel+1) listed a w:=by
  have atY:∀{a:Act} {w:World},Yields P ops oi v a→YieldsAt P ops w oi v a:=fun h=>h.imp (fun ⟨h1,h2⟩=>⟨h1,.inl (h2 _)⟩) id
  intro fuel;induction fuel with
  |zero=>
    intro listed a w _ hr hy H;refine⟨fun h=>(by rw[h] at hr;cases hr),fun j hj=>?_⟩;by_cases AP:j=i
    · subst AP;rw[if_neg (by rw[hEi];simp)];exact(atY hy).stOp hi H
    · have:=ready_mono hj AP;rw[H.1] at this;cases this
  |succ fuel ih=>
    intro listed a w rf hr hy H;refine⟨fun h=>(by rw[h] at hr;cases hr),fun j hj=>?_⟩;by_cases AP:j=i
    · subst AP;rw[if_neg (by rw[hEi];simp)];exact(atY hy).stOp hi H
    · have h1:=H.2 j (ready_mono hj AP);obtain⟨Ev,oj,AO,tj⟩:=mem_ready.1 hj;have Vz:=rf.notReady hj AP;have wv:=rf.apart j oj AO Ev Vz;by_cases hE:E j=true
      · rw[if_pos hE] at h1 ⊢;have h2:=wpOp_put AO wv (fun cs b=>pO i oi cs b hi) (fun cs b=>pO j oj cs b AO) hQ hy h1;refine wpOp_mono (fun a' w' h3=>ih (listed.setIfInBounds j true) a' w' (rf.put Vz Ev) (ready_mono hr (Ne.symm AP)) h3.1 ?_) h2;rw[Array.setIfInBounds_comm _ _ AP];exact h3.2
      · rw[if_neg hE] at h1 ⊢;have h2:=stOp_put AO wv (fun cs b=>pO i oi cs b hi) (fun cs b=>pO j oj cs b AO) (atY hy) h1;obtain⟨hp1,hp2,Ce⟩:=Oper.apart_spec wv;obtain⟨u,hu,h5⟩:=yieldsAt_of_stOp AO h2;refine hu.stOp AO (ih (listed.setIfInBounds j true) _ w (rf.put Vz Ev) (ready_mono hr (Ne.symm AP)) ?_ ?_)
        · exact hy.of_same (execOp_put oi (fun cs b=>pO i oi cs b hi) a oj.dst u Ce) (wanted_put oi a oj.dst u Ce)
        · rw[Array.setIfInBounds_comm _ _ AP];exact h5.2
theorem Jv {i:Nat} {fuel:Nat} {listed:Array Bool} {a:Act} {w:World} (hi:i ∈ Region.ready md ops listed) (hr:∀j ∈ Region.ready md ops listed,j=i)
    (hE:E i=true) (h:wpOp P ops Q i (Co P md ops E Q fuel (listed.setIfInBounds i true)) a w):Co P md ops E Q (fuel+1) listed a w:=
  ⟨fun h0=>(by rw[h0] at hi;cases hi),fun j hj=>(by
    have:=hr j hj;subst this;rw[if_pos hE];exact h)⟩
theorem xv {listed:Array Bool} {a:Act} {w:World} (hr:Region.ready md ops listed=[]) (h:Q .normal a w):
    ∀fuel,Co P md ops E Q fuel listed a w
  |0=>⟨hr,h⟩
  |_+1=>⟨fun _=>h,by rw[hr];simp⟩
theorem vJ {id:Nat} {a:Act} {w:World} (hm:P.follows .mixedOrders=true)
    (h:Co P .any ops E Q ops.size (Array.replicate ops.size false) a w.drew):(Code.region id ops true).wp P Q a w:=
  wp_region_any hm (r' _ _ _ _ h)
end
def nth:Nat→List Oper→Option Oper
  |_,[]=>none
  |0,o::_=>some o
  |n+1,_::L=>nth n L
theorem Jw:∀(i:Nat) (L:List Oper),nth i L=L[i]?
  |_,[]=>by simp[nth]
  |0,o::_=>by simp[nth]
  |n+1,_::L=>by simp[nth,Jw n L]
theorem kj {i:Nat} {L:List Oper} {o:Oper} (h:nth i L=some o):L.toArray[i]? =some o:=by rw[Jw] at h;simpa using h
def nthN:Nat→List Nat→Nat
  |_,[]=>0
  |0,o::_=>o
  |n+1,_::L=>nthN n L
def maskOf (acc:List Nat):List Edge→Nat
  |[]=>0
  |e::es=>if Region.binds .any e && Nat.blt e.on acc.length then Nat.lor (Nat.lor (Nat.pow 2 e.on) (nthN e.on acc)) (maskOf acc es) else maskOf acc es
def befs:List Nat→List Oper→List Nat
  |acc,[]=>acc
  |acc,o::os=>befs (acc++[maskOf acc o.after.toList]) os
def backB:Nat→List Oper→Bool
  |_,[]=>true
  |n,o::os=>(o.after.toList.all fun e=> !Region.binds .any e||Nat.blt e.on n) && backB (n+1) os
def apartB (ops:Array Oper) (b:List Nat):Nat→List Oper→Nat→Oper→Bool
  |_,[],_,_=>true
  |j,o::os,i,oi=>(Nat.testBit (nthN j b) i||Nat.testBit (nthN i b) j||j==i||oi.apart ops o) && apartB ops b (j+1) os i oi
def jx (ops:Array Oper) (b:List Nat) (L:List Oper):Nat→List Oper→Bool
  |_,[]=>true
  |i,o::os=>apartB ops b 0 L i o && jx ops b L (i+1) os
inductive Kd where
  |y|r|e
  deriving DecidableEq
def pP (m d:Nat):Bool:=Nat.beq (Nat.land m d) m
def allFrom (p:Nat→Bool):Nat→Nat→Bool
  |_,0=>true
  |j,n+1=>p j && allFrom p (j+1) n
theorem kk {p:Nat→Bool}:∀(n j:Nat),allFrom p j n=true→∀k,j≤k→k<j+n→p k=true
  |0,_,_,k,h1,h2=>by omega
  |n+1,j,h,k,h1,h2=>by
    simp only[allFrom,Bool.and_eq_true] at h;by_cases e:k=j
    · subst e;exact h.1
    · exact kk n (j+1) h.2 k Om Om
def stepsB (n:Nat) (b:List Nat) (E:Nat):List (Nat × Kd)→Nat→Bool
  |[],d=>Nat.beq d (Nat.pow 2 n-1)
  |(i,k)::rest,d=>Nat.blt i n && !Nat.testBit d i && pP (nthN i b) d &&
      (match k with
       | .y=> !Nat.testBit E i
       | .r=> !Nat.testBit E i && allFrom (fun j=>Nat.testBit d j|| !Nat.testBit E j||Nat.testBit (nthN j b) i) 0 n
       | .e=>Nat.testBit E i && allFrom (fun j=>Nat.testBit d j||j==i||Nat.testBit (nthN j b) i) 0 n) && stepsB n b E rest (Nat.lor d (Nat.pow 2 i))
def Gv (L:List Oper) (E:Nat) (order:List (Nat × Kd)):Bool:=
  Region.noSelect L.toArray && Nat.ble order.length L.length && backB 0 L && jx L.toArray (befs [] L) L 0 L && stepsB L.length (befs [] L) E order 0
theorem tk:∀(i:Nat) (L:List Nat),nthN i L=L.getD i 0
  |_,[]=>by simp[nthN]
  |0,o::_=>by simp[nthN]
  |n+1,_::L=>by simp[nthN,tk n L]
theorem sa (acc:List Nat) (i:Nat):∀(es:List Edge),(maskOf acc es).testBit i=true→∃e ∈ es,Region.binds .any e=true∧e.on<acc.length∧(e.on=i∨(nthN e.on acc).testBit i=true)
  |[],h=>by simp[maskOf] at h
  |e::es,h=>by
    simp only[maskOf] at h;split at h
    · rename_i hc;rw[Bool.and_eq_true] at hc;have h':((2^e.on|||nthN e.on acc)|||maskOf acc es).testBit i=true:=h;rw[Nat.testBit_or,Nat.testBit_or,Bool.or_eq_true,Bool.or_eq_true] at h';rcases h' with (h1|h1)|h1
      · rw[Nat.testBit_two_pow] at h1;exact⟨e,List.mem_cons_self,hc.1,Nat.le_of_ble_eq_true hc.2,.inl (by simpa using h1)⟩
      · exact⟨e,List.mem_cons_self,hc.1,Nat.le_of_ble_eq_true hc.2,.inr h1⟩
      · obtain⟨e',he',h2⟩:=sa acc i es h1;exact⟨e',List.mem_cons_of_mem _ he',h2⟩
    · obtain⟨e',he',h2⟩:=sa acc i es h;exact⟨e',List.mem_cons_of_mem _ he',h2⟩
theorem sc (acc:List Nat):∀(es:List Edge) (e:Edge),e ∈ es→Region.binds .any e=true→e.on<acc.length→(maskOf acc es).testBit e.on=true
  |[],e,h,_,_=>by cases h
  |e0::es,e,h,hb,hl=>by
    simp only[maskOf];split
    · show((2^e0.on|||nthN e0.on acc)|||maskOf acc es).testBit e.on=true;rw[Nat.testBit_or,Nat.testBit_or];rcases List.mem_cons.1 h with h'|h'
      · subst h';simp[Nat.testBit_two_pow]
      · simp[sc acc es e h' hb hl]
    · rename_i hc;rcases List.mem_cons.1 h with h'|h'
      · subst h'
        exfalso;apply hc
        rw[hb,Bool.true_and];exact Nat.ble_eq_true_of_le hl
      · exact sc acc es e h' hb hl
theorem xw:∀(L:List Oper) (acc:List Nat),(befs acc L).length=acc.length+L.length
  |[],acc=>by simp[befs]
  |o::os,acc=>by simp only[befs,xw os,List.length_append,List.length_cons,List.length_nil];omega
theorem xx:∀(L:List Oper) (acc:List Nat) (k:Nat),k<acc.length→(befs acc L)[k]? =acc[k]?
  |[],acc,k,h=>by simp[befs]
  |o::os,acc,k,h=>by
    simp only[befs];rw[xx os _ k Oz,List.getElem?_append_left h]
theorem AQ:∀(L:List Oper) (acc:List Nat) (j:Nat) (o:Oper),L[j]? =some o→(befs acc L)[acc.length+j]? =some (maskOf ((befs acc L).take (acc.length+j)) o.after.toList)
  |[],acc,j,o,h=>by simp at h
  |o0::os,acc,0,o,h=>by
    simp at h;subst h;simp only[befs,Nat.add_zero];rw[xx os _ acc.length Oi];rw[List.getElem?_append_right (Nat.le_refl _)];simp only[Nat.sub_self,List.getElem?_cons_zero,Option.some.injEq];congr 1;apply List.ext_getElem?;intro k;rw[List.getElem?_take];split
    · rename_i hk;rw[xx os _ k Oz,List.getElem?_append_left hk]
    · rename_i hk;rw[List.getElem?_eq_none Om]
  |o0::os,acc,j+1,o,h=>by
    simp only[befs];have:=AQ os (acc++[maskOf acc o0.after.toList]) j o (by simpa using h);have e:(acc++[maskOf acc o0.after.toList]).length+j=acc.length+(j+1):=by simp;omega
    rw[e] at this;exact this
theorem uZ {L:List Oper} {j i:Nat} {o:Oper} (hj:L[j]? =some o) (h:(nthN j (befs [] L)).testBit i=true):∃e ∈ o.after,Region.binds .any e=true∧e.on<j∧(e.on=i∨(nthN e.on (befs [] L)).testBit i=true):=by
  have h1:=AQ L [] j o hj;simp only[List.length_nil,Nat.zero_add] at h1;rw[tk,List.getD_eq_getElem?_getD,h1,Option.getD_some] at h;have PR:j<L.length:=by
    rcases Nat.lt_or_ge j L.length with h'|h'
    · exact h'
    · simp[List.getElem?_eq_none h'] at hj
  obtain⟨e,he,hb,hl,VA⟩:=sa _ _ _ h;have HQ:e.on<j:=by
    rw[List.length_take,xw] at hl;omega
  refine⟨e,by simpa using he,hb,HQ,VA.imp id fun h2=>?_⟩;rw[tk,List.getD_eq_getElem?_getD,List.getElem?_take,if_pos HQ] at h2;rw[tk,List.getD_eq_getElem?_getD];exact h2
theorem xy {L:List Oper} {j:Nat} {o:Oper} (hj:L[j]? =some o) {e:Edge} (he:e ∈ o.after) (hb:Region.binds .any e=true) (hl:e.on<j):(nthN j (befs [] L)).testBit e.on=true:=by
  have h1:=AQ L [] j o hj;simp only[List.length_nil,Nat.zero_add] at h1;rw[tk,List.getD_eq_getElem?_getD,h1,Option.getD_some];have PR:j<L.length:=by
    rcases Nat.lt_or_ge j L.length with h'|h'
    · exact h'
    · simp[List.getElem?_eq_none h'] at hj
  refine sc _ _ e (by simpa using he) hb ?_;rw[List.length_take,xw];simp;omega
theorem sd:∀(L:List Oper) (n:Nat),backB n L=true→∀(j:Nat) (o:Oper),L[j]? =some o→∀e ∈ o.after,Region.binds .any e=true→e.on<n+j
  |[],n,_,j,o,hj,_,_,_=>by simp at hj
  |o0::os,n,h,0,o,hj,e,he,hb=>by
    simp at hj;subst hj;simp only[backB,Bool.and_eq_true,List.all_eq_true] at h;have:=h.1 e (by simpa using he);rw[hb] at this;have h2:Nat.blt e.on n=true:=by simpa using this
    have h3:=Nat.le_of_ble_eq_true h2;omega
  |o0::os,n,h,j+1,o,hj,e,he,hb=>by
    simp only[backB,Bool.and_eq_true] at h;have:=sd os (n+1) h.2 j o (by simpa using hj) e he hb;omega
theorem pQ {ops:Array Oper} {b:List Nat} {i:Nat} {oi:Oper}:∀(L:List Oper) (n:Nat),apartB ops b n L i oi=true→∀(j:Nat) (o:Oper),L[j]? =some o→(nthN (n+j) b).testBit i=true∨(nthN i b).testBit (n+j)=true∨n+j=i∨oi.apart ops o=true
  |[],n,_,j,o,hj=>by simp at hj
  |o0::os,n,h,0,o,hj=>by
    simp at hj;subst hj;simp only[apartB,Bool.and_eq_true,Bool.or_eq_true,beq_iff_eq] at h;rcases h.1 with ((h1|h1)|h1)|h1
    · exact .inl h1
    · exact .inr (.inl h1)
    · exact .inr (.inr (.inl h1))
    · exact .inr (.inr (.inr h1))
  |o0::os,n,h,j+1,o,hj=>by
    simp only[apartB,Bool.and_eq_true] at h;have:=pQ os (n+1) h.2 j o (by simpa using hj);rw[show n+(j+1)=n+1+j by omega];exact this
theorem nH {ops:Array Oper} {b:List Nat} {L0:List Oper}:∀(L:List Oper) (n:Nat),jx ops b L0 n L=true→∀(i:Nat) (o:Oper),L[i]? =some o→apartB ops b 0 L0 (n+i) o=true
  |[],n,_,j,o,hj=>by simp at hj
  |o0::os,n,h,0,o,hj=>by
    simp at hj;subst hj;simp only[jx,Bool.and_eq_true] at h;exact h.1
  |o0::os,n,h,i+1,o,hj=>by
    simp only[jx,Bool.and_eq_true] at h;have:=nH os (n+1) h.2 i o (by simpa using hj);rw[show n+(i+1)=n+1+i by omega];exact this
theorem kR {m d:Nat} (h:pP m d=true) {i:Nat} (hi:m.testBit i=true):d.testBit i=true:=by
  have h':m&&&d=m:=Nat.eq_of_beq_eq_true h;have:=congrArg (fun x=>x.testBit i) h';simp only[Nat.testBit_and,hi,Bool.true_and] at this;exact this
section
variable {P:Program} {Q:Exit→Act→World→Prop}
def VB (P:Program) (ops:Array Oper) (Q:Exit→Act→World→Prop):List (Nat × Kd)→Act→World→Prop
  |[],a,w=>Q .normal a w
  |(i,k)::rest,a,w=>match k with
    | .y=>∃o v,ops[i]? =some o∧Yields P ops o v a∧VB P ops Q rest (a.put o.dst v) w
    | .r=>∃o v,ops[i]? =some o∧YieldsAt P ops w o v a∧VB P ops Q rest (a.put o.dst v) w
    | .e=>wpOp P ops Q i (VB P ops Q rest) a w
structure PS (L:List Oper) (d:Nat) (listed:Array Bool):Prop where
  size:listed.size=L.length
  at_:∀j,j<L.length→listed.getD j true=d.testBit j
  closed:∀j,j<L.length→d.testBit j=true→pP (nthN j (befs [] L)) d=true
theorem PS.put {L:List Oper} {d i:Nat} {listed:Array Bool} (h:PS L d listed) (hi:i<L.length) (hs:pP (nthN i (befs [] L)) d=true):PS L (Nat.lor d (Nat.pow 2 i)) (listed.setIfInBounds i true):=by
  have hb:∀j,(Nat.lor d (Nat.pow 2 i)).testBit j=(d.testBit j||decide (i=j)):=fun j=>by
    show(d|||2^i).testBit j=_;rw[Nat.testBit_or,Nat.testBit_two_pow]
  have mono:∀m,pP m d=true→pP m (Nat.lor d (Nat.pow 2 i))=true:=fun m hm=>by
    have e:m&&&d=m:=Nat.eq_of_beq_eq_true hm;show Nat.beq (m&&&(d|||2^i)) m=true;have e2:m&&&(d|||2^i)=m:=by
      apply Nat.eq_of_testBit_eq;intro k;have h1:=congrArg (fun x=>x.testBit k) e;simp only[Nat.testBit_and] at h1;rw[Nat.testBit_and,Nat.testBit_or];cases hm:m.testBit k<;>cases hd:d.testBit k<;>simp_all
    rw[e2];exact Nat.beq_refl m
  refine⟨by simp[h.size],fun j hj=>?_,fun j hj hd=>?_⟩
  · rw[hb];by_cases e:i=j
    · subst e;simp[h.size,hj]
    · rw[getD_set_ne true e,h.at_ j hj];simp[e]
  · rw[hb,Bool.or_eq_true] at hd;rcases hd with hd|hd
    · exact mono _ (h.closed j hj hd)
    · have:i=j:=by simpa using hd
      subst this;exact mono _ hs
theorem oN {L:List Oper} {E:Nat} (pO:Region.noSelect L.toArray=true) (pt:backB 0 L=true) (wv:jx L.toArray (befs [] L) L 0 L=true)
    (hQ:∀c a w (d:Nat) v,Q (.panic c) (a.put (some d) v) w→Q (.panic c) a w):
    ∀(order:List (Nat × Kd)) (d fuel:Nat) (listed:Array Bool) (a:Act) (w:World),stepsB L.length (befs [] L) E order d=true→PS L d listed→order.length≤fuel→VB P L.toArray Q order a w→
      Co P .any L.toArray (fun j=>Nat.testBit E j) Q fuel listed a w
  |[],d,fuel,listed,a,w,hs,hl,_,h=>by
    refine xv ?_ h fuel;have hd:d=2^L.length-1:=Nat.eq_of_beq_eq_true hs;apply List.eq_nil_iff_forall_not_mem.2;intro j hj;obtain⟨tg,o,ho,_⟩:=mem_ready.1 hj;have fg:j<L.length:=by simpa using (Array.getElem?_eq_some_iff.1 ho).1
    rw[hl.at_ j fg,hd,Nat.testBit_two_pow_sub_one] at tg;simp[fg] at tg
  |(i,k)::rest,d,fuel,listed,a,w,hs,hl,hf,h=>by
    obtain⟨fuel,rfl⟩:∃f,fuel=f+1:=⟨fuel-1,by simp at hf;omega⟩;simp only[stepsB,Bool.and_eq_true] at hs;obtain⟨⟨⟨⟨Cr,wo⟩,nU⟩,hk⟩,tm⟩:=hs;have fg:i<L.length:=Nat.le_of_ble_eq_true Cr;have u0:d.testBit i=false:=by simpa using wo
    have QD:L[i]? =some L[i]:=by simp[fg]
    have Ja:L.toArray[i]? =some L[i]:=by simpa using QD
    have HQ:=hl.put fg nU;have dir:∀e ∈ L[i].after,Region.binds .any e=true→listed.getD e.on false=true:=fun e he hb=>by
      have h1:=sd L 0 pt i _ QD e he hb;rw[Nat.zero_add] at h1;have h2:=kR nU (xy QD he hb h1);have h3:=hl.at_ e.on Om;rw[h2] at h3;have:e.on<listed.size:=by rw[hl.size];omega
      simpa [this] using h3
    have nI:i ∈ Region.ready .any L.toArray listed:=mem_ready.2 ⟨by rw[hl.at_ i fg];exact u0,_,Ja,dir⟩;have Ty:L.toArray.size=L.length:=Oi;have nb:NB .any L.toArray listed i L[i] (fun j=>j=i∨(nthN j (befs [] L)).testBit i=true):=by
      refine⟨fun j hj hb=>?_,fun j oj hj hb uY=>?_,fun j oj hj tg hb=>?_⟩
      · rw[Ty] at hj;rw[hl.at_ j hj];rcases hb with rfl|hb
        · exact u0
        · cases hd:d.testBit j with
          |false=>rfl
          |true=>rw[kR (hl.closed j hj hd) hb] at u0;cases u0
      · have zC:L[j]? =some oj:=by simpa using hj
        rcases hb with rfl|hb
        · exact(uY rfl).elim
        · obtain⟨e,he,hbi,hle,VA⟩:=uZ zC hb;have:j<L.length:=by
            rcases Nat.lt_or_ge j L.length with h'|h'
            · exact h'
            · simp[List.getElem?_eq_none h'] at zC
          exact⟨e,he,hbi,VA,by rw[Ty];omega⟩
      · have zC:L[j]? =some oj:=by simpa using hj
        have PR:j<L.length:=by
          rcases Nat.lt_or_ge j L.length with h'|h'
          · exact h'
          · simp[List.getElem?_eq_none h'] at zC
        have h1:=nH L 0 wv i _ QD;rw[Nat.zero_add] at h1;have h2:=pQ L 0 h1 j oj zC;simp only[Nat.zero_add] at h2;rcases h2 with h2|h2|h2|h2
        · exact(hb (.inr h2)).elim
        · rw[hl.at_ j PR,kR nU h2] at tg;cases tg
        · exact(hb (.inl h2)).elim
        · exact h2
    cases k with
    |y=>
      obtain⟨o,v,ho,hy,hw⟩:=h;have:o=L[i]:=Option.some.inj (ho.symm.trans Ja);subst this;have hE:Nat.testBit E i=false:=by simpa using hk
      refine Cq Ja (Region.noSelect_spec pO) hE ?_ fuel listed a w nb nI hy (oN pO pt wv hQ rest _ fuel _ _ w tm HQ (by simp at hf;omega) hw);intro c a w hq;cases hd:L[i].dst with
      |none=>rw[hd] at hq;exact hq
      |some d'=>rw[hd] at hq;exact hQ c a w d' v hq
    |r=>
      obtain⟨o,v,ho,hy,hw⟩:=h;have:o=L[i]:=Option.some.inj (ho.symm.trans Ja);subst this;rw[Bool.and_eq_true] at hk;have hE:Nat.testBit E i=false:=by simpa using hk.1
      refine Cp Ja (Region.noSelect_spec pO) hE (.inl rfl) fuel listed a w nb ?_ nI hy (oN pO pt wv hQ rest _ fuel _ _ w tm HQ (by simp at hf;omega) hw);intro j hj tg hEj;rw[Ty] at hj;have h1:=kk _ _ hk.2 j Om Om;rw[hl.at_ j hj] at tg;simp only[tg,hEj,Bool.not_true,Bool.false_or] at h1;exact .inr h1
    |e=>
      rw[Bool.and_eq_true] at hk;refine Jv nI ?_ hk.1 (wpOp_mono (fun a' w' h'=>oN pO pt wv hQ rest _ fuel _ a' w' tm HQ (by simp at hf;omega) h') h);intro j hj;refine Classical.byContradiction fun uY=>nb.notReady hj uY ?_
      obtain⟨tg,oj,AO,_⟩:=mem_ready.1 hj;have PR:j<L.length:=by simpa using (Array.getElem?_eq_some_iff.1 AO).1
      have h1:=kk _ _ hk.2 j Om Om;rw[hl.at_ j PR] at tg;have alB:(j==i)=false:=by simpa using uY
      simp only[tg,alB,Bool.false_or] at h1;exact .inr h1
theorem Ew {L:List Oper} {id:Nat} (E:Nat) (order:List (Nat × Kd)) (hm:P.follows .mixedOrders=true) (hB:Gv L E order=true)
    (hQ:∀c a w (d:Nat) v,Q (.panic c) (a.put (some d) v) w→Q (.panic c) a w) {a:Act} {w:World} (h:VB P L.toArray Q order a w.drew):(Code.region id L.toArray true).wp P Q a w:=by
  simp only[Gv,Bool.and_eq_true] at hB;obtain⟨⟨⟨⟨h1,h0⟩,h2⟩,h3⟩,h4⟩:=hB;have Jx:order.length≤L.length:=Nat.le_of_ble_eq_true h0;refine vJ (E:=fun j=>Nat.testBit E j) hm ?_;have hl:PS L 0 (Array.replicate L.toArray.size false):=⟨Oi,fun j hj=>by simp[hj],fun j hj hd=>by simp at hd⟩;have:=oN (P:=P) h1 h2 h3 hQ order 0 L.toArray.size _ a w.drew h4 hl (by simpa using Jx) h;exact this
end
abbrev ba:=List (Nat × Value)
def look (t:Nat):ba→Option Value
  |[]=>none
  |p::ρ=>bif Nat.beq p.1 t then some p.2 else look t ρ
def ev (ρ:ba):Operand→Option Value
  | .tmp t=>look t ρ
  | .const v=>some v
  | .global g=>some (.pointer (some ⟨g,0,none⟩))
  | .func f=>some (.func (.func f) #[] #[])
def tq (ρ:ba) (a:Act):Prop:=∀t v,look t ρ=some v→a.tmps[t]? =some v
theorem bU {ρ:ba} {a:Act} (h:tq ρ a) {x:Operand} {v:Value} (hx:ev ρ x=some v):a.eval x=v:=by
  cases x with
  |tmp t=>simp[Act.eval,h t v hx]
  |const u=>exact Option.some.inj hx
  |global g=>exact Option.some.inj hx
  |func f=>exact Option.some.inj hx
theorem tq.put {ρ:ba} {a:Act} (h:tq ρ a) {d:Nat} (hd:d<a.tmps.size) (v:Value):tq ((d,v)::ρ) (a.put (some d) v):=by
  intro t u ht;simp only[look,cond_eq_ite] at ht;simp only[Act.put];by_cases e:d=t
  · subst e;simp at ht;simp[hd,ht]
  · have hb:Nat.beq d t=false:=by
      cases hb:Nat.beq d t with
      |false=>rfl
      |true=>exact absurd (Nat.eq_of_beq_eq_true hb) e
    simp[hb] at ht;rw[Array.getElem?_setIfInBounds_ne e];exact h t u ht
def Sub (ρ' ρ:ba):Prop:=match ρ' with
  |[]=>True
  |p::q=>look p.1 ρ=some p.2∧Sub q ρ
theorem Sub.ok {ρ ρ':ba} (h:Sub ρ' ρ) {a:Act} (ha:tq ρ a):tq ρ' a:=by
  induction ρ' with
  |nil=>intro t v ht;simp[look] at ht
  |cons p q ih=>
    intro t v ht;simp only[look,cond_eq_ite] at ht;by_cases e:Nat.beq p.1 t=true
    · have e':p.1=t:=Nat.eq_of_beq_eq_true e;rw[if_pos e] at ht;rw[←e', ←Option.some.inj ht];exact ha _ _ h.1
    · rw[if_neg e] at ht;exact ih h.2 t v ht
structure Kx where
  n:Nat
  l0:List aU
  w0:World
def Own (K:Kx) (l:List aU):Prop:=∀s ∈ l,∀b j:Nat,s.has b j→(∃t ∈ K.l0,t.has b j)∨K.w0.heap.size≤b
structure At (K:Kx) (ρ:ba) (l r:List aU) (a:Act) (w:World):Prop where
  size:a.tmps.size=K.n
  defers:a.defers=[]
  fr:tq ρ a
  keeps:gH K.l0 K.w0 w
  st:St l r w
  own:Own K l
theorem St.drew {l r:List aU} {w:World} (h:St l r w):St l r w.drew:=⟨h.hl,h.hr,h.pw,h.lr⟩
theorem At.drew {K:Kx} {ρ:ba} {l r:List aU} {a:Act} {w:World} (h:At K ρ l r a w):At K ρ l r a w.drew:=
  ⟨h.size,h.defers,h.fr,⟨h.keeps.os,h.keeps.tape,h.keeps.output,h.keeps.size,h.keeps.cells,h.keeps.other⟩,h.st.drew,h.own⟩
theorem At.put {K:Kx} {ρ:ba} {l r:List aU} {a:Act} {w:World} (h:At K ρ l r a w) {d:Nat} (hd:Nat.blt d K.n=true) (v:Value):At K ((d,v)::ρ) l r (a.put (some d) v) w:=
  ⟨by simp[Act.put,h.size],h.defers,h.fr.put (by rw[h.size];exact Nat.le_of_ble_eq_true hd) v,h.keeps,h.st,h.own⟩
theorem At.sub {K:Kx} {ρ ρ':ba} {l r:List aU} {a:Act} {w:World} (h:At K ρ l r a w) (hs:Sub ρ' ρ):At K ρ' l r a w:=
  ⟨h.size,h.defers,hs.ok h.fr,h.keeps,h.st,h.own⟩
section
variable (P:Program) (K:Kx) (Q:Exit→Act→World→Prop)
def G (c:Code) (ρ:ba) (l r:List aU):Prop:=∀a w,At K ρ l r a w→c.wp P Q a w
def GQ (e:Exit) (ρ:ba) (l r:List aU):Prop:=∀a w,At K ρ l r a w→Q e a w
def GL (L rest:List Oper) (ρ:ba) (l r:List aU):Prop:=∀a w,At K ρ l r a w→wpList P L.toArray Q rest a w
def GP (L:List Oper) (order:List (Nat × Kd)) (ρ:ba) (l r:List aU):Prop:=∀a w,At K ρ l r a w→VB P L.toArray Q order a w
end
section
variable {P:Program} {K:Kx} {Q:Exit→Act→World→Prop} {ρ:ba} {l r:List aU}
theorem G.seq {x y:Code} (h:G P K (Exit.then (y.wp P Q) Q) x ρ l r):G P K Q (.seq x y) ρ l r:=fun a w ha=>wp_seq (h a w ha)
theorem G.block {id:Nat} {c:Code} (h:G P K (Exit.inBlock id Q) c ρ l r):G P K Q (.block id c) ρ l r:=fun a w ha=>wp_block (h a w ha)
theorem G.skip (h:GQ K Q .normal ρ l r):G P K Q .skip ρ l r:=fun a w ha=>wp_skip (h a w ha)
theorem G.ret (h:GQ K Q .ret ρ l r):G P K Q .ret ρ l r:=fun a w ha=>wp_ret (h a w ha)
theorem G.exit {id:Nat} (h:GQ K Q (.exit id) ρ l r):G P K Q (.exit id) ρ l r:=fun a w ha=>wp_exit (h a w ha)
theorem G.cond {c:Operand} {x y:Code} {t:Bool} (hc:ev ρ c=some (.bool t)) (ht:t=true→G P K Q x ρ l r) (hf:t=false→G P K Q y ρ l r):G P K Q (.cond c x y) ρ l r:=
  fun a w ha=>wp_cond_split (bU ha.fr hc) (fun h=>ht h a w ha) (fun h=>hf h a w ha)
theorem G.Jy {c:Operand} {x y:Code} {p:Prop} [Decidable p] (hc:ev ρ c=some (.bool (decide p))) (ht:p→G P K Q x ρ l r) (hf:¬p→G P K Q y ρ l r):G P K Q (.cond c x y) ρ l r:=
  G.cond hc (fun h=>ht (of_decide_eq_true h)) (fun h=>hf (of_decide_eq_false h))
theorem G.lT {c:Operand} {x y:Code} (hc:ev ρ c=some (.bool true)) (h:G P K Q x ρ l r):G P K Q (.cond c x y) ρ l r:=G.cond hc (fun _=>h) (fun e=>by cases e)
theorem G.dS {c:Operand} {x y:Code} (hc:ev ρ c=some (.bool false)) (h:G P K Q y ρ l r):G P K Q (.cond c x y) ρ l r:=G.cond hc (fun e=>by cases e) (fun _=>h)
theorem G.gC {c:Operand} {x y:Code} {p:Prop} [Decidable p] (hc:ev ρ c=some (.bool (decide p))) (hp:p) (h:G P K Q x ρ l r):G P K Q (.cond c x y) ρ l r:=G.Jy hc (fun _=>h) (fun e=>(e hp).elim)
theorem G.cQ {c:Operand} {x y:Code} {p:Prop} [Decidable p] (hc:ev ρ c=some (.bool (decide p))) (hp:¬p) (h:G P K Q y ρ l r):G P K Q (.cond c x y) ρ l r:=G.Jy hc (fun e=>(hp e).elim) (fun _=>h)
theorem G.region {id:Nat} {L:List Oper} (h:GL P K Q L L ρ l r):G P K Q (.region id L.toArray false) ρ l r:=fun a w ha=>wp_region_lit (h a w ha)
theorem G.alC {id:Nat} {L:List Oper} (E:Nat) (order:List (Nat × Kd)) (hm:P.follows .mixedOrders=true) (hB:Gv L E order=true) (hQ:∀c a w (d:Nat) v,Q (.panic c) (a.put (some d) v) w→Q (.panic c) a w) (h:GP P K Q L order ρ l r):G P K Q (.region id L.toArray true) ρ l r:=
  fun a w ha=>Ew E order hm hB hQ (h a w.drew ha.drew)
theorem GQ.ae {y:Code} (h:G P K Q y ρ l r):GQ K (Exit.then (y.wp P Q) Q) .normal ρ l r:=h
theorem GQ.ax9 {X:Act→World→Prop} (h:GQ K Q .ret ρ l r):GQ K (Exit.then X Q) .ret ρ l r:=h
theorem GQ.ah {X:Act→World→Prop} {id:Nat} (h:GQ K Q (.exit id) ρ l r):GQ K (Exit.then X Q) (.exit id) ρ l r:=h
theorem GQ.ai {id:Nat} (h:GQ K Q .normal ρ l r):GQ K (Exit.inBlock id Q) .normal ρ l r:=h
theorem GQ.alD {id:Nat} (h:GQ K Q .ret ρ l r):GQ K (Exit.inBlock id Q) .ret ρ l r:=h
theorem GQ.ar {id:Nat} (h:GQ K Q .normal ρ l r):GQ K (Exit.inBlock id Q) (.exit id) ρ l r:=fun a w ha=>by simp only[Exit.inBlock,if_true];exact h a w ha
theorem GQ.dI {id id':Nat} (uY:Nat.beq id' id=false) (h:GQ K Q (.exit id') ρ l r):GQ K (Exit.inBlock id Q) (.exit id') ρ l r:=
  fun a w ha=>by simp only[Exit.inBlock,if_neg (Nat.ne_of_beq_eq_false uY)];exact h a w ha
def Jz (K:Kx) (I:Nat→ba→List aU→Prop) (r:List aU) (n:Nat) (a:Act) (w:World):Prop:=∃m,m<n∧∃ρ l,I m ρ l∧At K ρ l r a w
theorem G.loop {c:Code} (I:Nat→ba→List aU→Prop) {n:Nat} {ρ0:ba} (h0:I n ρ0 l) (hs:Sub ρ0 ρ)
    (h:∀n ρ l,I n ρ l→G P K (Exit.then (Jz K I r n) Q) c ρ l r):G P K Q (.loop c) ρ l r:=by
  intro a w ha;refine wp_loop (fun a w=>∃n,Jz K I r n a w) (fun a w=>Classical.epsilon fun n=>(∃ρ l,I n ρ l∧At K ρ l r a w)∧∀m,(∃ρ l,I m ρ l∧At K ρ l r a w)→n≤m) ⟨n+1,n,Nat.lt_succ_self _,ρ0,l,h0,ha.sub hs⟩ ?_;intro a w ⟨_,m,_,ρ,l,hI,hA⟩;have least:∀(a:Act) (w:World) (m:Nat),(∃ρ l,I m ρ l∧At K ρ l r a w)→∃n,(∃ρ l,I n ρ l∧At K ρ l r a w)∧∀m,(∃ρ l,I m ρ l∧At K ρ l r a w)→n≤m:=by
    intro a w m;induction m using Nat.strongRecOn with
    |_ m ih=>
      intro hm;by_cases hx:∃k,k<m∧∃ρ l,I k ρ l∧At K ρ l r a w
      · obtain⟨k,hk,y8⟩:=hx;exact ih k hk y8
      · exact⟨m,hm,fun k hk=>Nat.le_of_not_lt fun fg=>hx ⟨k,fg,hk⟩⟩
  have e1:=Classical.epsilon_spec (least a w m ⟨ρ,l,hI,hA⟩);generalize hN:(Classical.epsilon fun n=>(∃ρ l,I n ρ l∧At K ρ l r a w)∧∀m,(∃ρ l,I m ρ l∧At K ρ l r a w)→n≤m)=N at*;obtain⟨⟨ρ1,l1,hI1,hA1⟩,_⟩:=e1;refine wp_mono (h N ρ1 l1 hI1 a w hA1) ?_;intro e a' w' hq;cases e with
  |normal=>
    obtain⟨m',hm',ρ',l',hI',hA'⟩:=hq;refine⟨⟨N,m',hm',ρ',l',hI',hA'⟩,?_⟩;have e2:=Classical.epsilon_spec (least a' w' m' ⟨ρ',l',hI',hA'⟩);have:=e2.2 m' ⟨ρ',l',hI',hA'⟩;show _<N;omega
  |_=>exact hq
theorem GQ.back {I:Nat→ba→List aU→Prop} {n m:Nat} {ρ':ba} (hm:m<n) (hI:I m ρ' l) (hs:Sub ρ' ρ):GQ K (Exit.then (Jz K I r n) Q) .normal ρ l r:=
  fun a w ha=>⟨m,hm,ρ',l,hI,ha.sub hs⟩
theorem GQ.meet {M:ba→List aU→Prop} {ρ':ba} (hM:M ρ' l) (hs:Sub ρ' ρ):GQ K (Exit.then (fun a w=>∃ρ l,M ρ l∧At K ρ l r a w) Q) .normal ρ l r:=
  fun a w ha=>⟨ρ',l,hM,ha.sub hs⟩
def bB (P:Program) (ρ:ba) (o:Oper) (v:Value):Prop:=∀a,tq ρ a→∀w,(execOp a.eval o).run P w=.ok (.value v) w
def wx (P:Program) (ρ:ba) (l r:List aU) (o:Oper) (v:Value):Prop:=∀a w,tq ρ a→St l r w→(execOp a.eval o).run P w=.ok (.value v) w
def oL (P:Program) (K:Kx) (ρ:ba) (l r:List aU) (o:Oper) (N:ba→List aU→Prop):Prop:=
  ∀a w,At K ρ l r a w→∀(nx:Act→World→Prop) (Q:Exit→Act→World→Prop),(∀a' w',(∃ρ' l',N ρ' l'∧At K ρ' l' r a' w')→nx a' w')→o.wp P a w nx Q
def want (L:List Oper) (ρ:ba) (o:Oper):Option Bool:=
  match o.guard with
  |none=>some true
  |some (j,b)=>match (nth j L).bind (·.dst) with
    |some t=>match look t ρ with
      |some (.bool b')=>some (match b',b with|true,true=>true|false,false=>true|_,_=>false)
      |_=>none
    |none=>none
theorem ja {L:List Oper} {ρ:ba} {o:Oper} {b:Bool} (h:want L ρ o=some b) {a:Act} (ha:tq ρ a):Region.wanted o (yielded L.toArray a.tmps)=b:=by
  unfold want at h;unfold Region.wanted;cases hg:o.guard with
  |none=>simp only[hg] at h ⊢;exact Option.some.inj h
  |some p=>
    obtain⟨j,b0⟩:=p;simp only[hg] at h ⊢;unfold yielded;cases hj:nth j L with
    |none=>simp[hj] at h
    |some oj=>
      rw[kj hj];simp only[hj,Option.bind_some] at h ⊢;cases hd:oj.dst with
      |none=>simp[hd] at h
      |some t=>
        simp only[hd,Option.bind_some] at h ⊢;cases hl:look t ρ with
        |none=>simp[hl] at h
        |some v=>
          rw[ha t v hl];cases v<;>simp only[hl] at h<;>try (cases h)
          rename_i b';cases b'<;>cases b0<;>simp
end
section
variable {P:Program} {K:Kx} {Q:Exit→Act→World→Prop} {ρ:ba} {l r:List aU} {L rest:List Oper} {o:Oper} {d:Nat} {v:Value}
theorem bB.QE (h:bB P ρ o v):wx P ρ l r o v:=fun a w ha _=>h a ha w
theorem GL.rd (h:wx P ρ l r o v) (hw:want L ρ o=some true) (hd:o.dst=some d) (hn:Nat.blt d K.n=true) (k:GL P K Q L rest ((d,v)::ρ) l r):GL P K Q L (o::rest) ρ l r:=by
  intro a w ha;unfold wpList;rw[if_pos (ja hw ha.fr)];left;unfold Oper.wp;rw[h a w ha.fr ha.st];simp only[Oper.upon,hd];exact k _ _ (ha.put hn v)
theorem GL.y (h:bB P ρ o v) (hw:want L ρ o=some true) (hd:o.dst=some d) (hn:Nat.blt d K.n=true) (k:GL P K Q L rest ((d,v)::ρ) l r):GL P K Q L (o::rest) ρ l r:=
  GL.rd h.QE hw hd hn k
theorem GL.skip (hw:want L ρ o=some false) (hd:o.dst=some d) (hn:Nat.blt d K.n=true) (k:GL P K Q L rest ((d,undef)::ρ) l r):GL P K Q L (o::rest) ρ l r:=by
  intro a w ha;unfold wpList;rw[if_neg (by rw[ja hw ha.fr];simp),hd];exact k _ _ (ha.put hn undef)
theorem GL.bG {N:ba→List aU→Prop} (h:oL P K ρ l r o N) (hw:want L ρ o=some true) (k:∀ρ' l',N ρ' l'→GL P K Q L rest ρ' l' r):GL P K Q L (o::rest) ρ l r:=by
  intro a w ha;unfold wpList;rw[if_pos (ja hw ha.fr)];left;exact h a w ha _ _ fun a' w' ⟨ρ',l',hN,hA⟩=>k ρ' l' hN a' w' hA
theorem GL.nil (h:GQ K Q .normal ρ l r):GL P K Q L [] ρ l r:=fun a w ha=>h a w ha
theorem At.HR {a:Act} {w:World} {t:Nat} {b b':Bool} (h:At K ρ l r a w) (hl:look t ρ=some (.bool b)) (e:b=b'):At K ((t,.bool b')::ρ) l r a w:=by
  subst e;refine⟨h.size,h.defers,fun u x hu=>?_,h.keeps,h.st,h.own⟩;simp only[look,cond_eq_ite] at hu;by_cases e:Nat.beq t u=true
  · rw[if_pos e] at hu;rw[←Nat.eq_of_beq_eq_true e, ←Option.some.inj hu];exact h.fr _ _ hl
  · rw[if_neg e] at hu;exact h.fr _ _ hu
theorem GL.split {t:Nat} {p:Prop} [Decidable p] (hl:look t ρ=some (.bool (decide p))) (h1:p→GL P K Q L rest ((t,.bool true)::ρ) l r) (h2:¬p→GL P K Q L rest ((t,.bool false)::ρ) l r):GL P K Q L rest ρ l r:=by
  intro a w ha;by_cases hp:p
  · exact h1 hp a w (ha.HR hl (decide_eq_true hp))
  · exact h2 hp a w (ha.HR hl (decide_eq_false hp))
theorem GL.JA {t:Nat} {b:Bool} (hl:look t ρ=some (.bool b)) (h1:b=true→GL P K Q L rest ((t,.bool true)::ρ) l r) (h2:b=false→GL P K Q L rest ((t,.bool false)::ρ) l r):GL P K Q L rest ρ l r:=by
  intro a w ha;cases b with
  |true=>exact h1 rfl a w (ha.HR hl rfl)
  |false=>exact h2 rfl a w (ha.HR hl rfl)
theorem GL.JB {t:Nat} {p:Prop} [Decidable p] (hl:look t ρ=some (.bool (decide p))) (hp:p) (h1:GL P K Q L rest ((t,.bool true)::ρ) l r):GL P K Q L rest ρ l r:=GL.split hl (fun _=>h1) (fun h=>(h hp).elim)
theorem GL.xz {t:Nat} {p:Prop} [Decidable p] (hl:look t ρ=some (.bool (decide p))) (hp:¬p) (h1:GL P K Q L rest ((t,.bool false)::ρ) l r):GL P K Q L rest ρ l r:=GL.split hl (fun h=>(hp h).elim) (fun _=>h1)
variable {i:Nat} {os:List (Nat × Kd)}
theorem GP.y (h:bB P ρ o v) (hi:nth i L=some o) (hw:want L ρ o=some true) (hd:o.dst=some d) (hn:Nat.blt d K.n=true) (k:GP P K Q L os ((d,v)::ρ) l r):GP P K Q L ((i,.y)::os) ρ l r:=
  fun a w ha=>⟨o,v,kj hi,.inl ⟨ja hw ha.fr,fun w'=>h a ha.fr w'⟩,by rw[hd];exact k _ _ (ha.put hn v)⟩
theorem GP.skip (hi:nth i L=some o) (hw:want L ρ o=some false) (hd:o.dst=some d) (hn:Nat.blt d K.n=true) (k:GP P K Q L os ((d,undef)::ρ) l r):GP P K Q L ((i,.y)::os) ρ l r:=
  fun a w ha=>⟨o,undef,kj hi,.inr ⟨ja hw ha.fr,rfl⟩,by rw[hd];exact k _ _ (ha.put hn undef)⟩
theorem GP.JC (hi:nth i L=some o) (hw:want L ρ o=some false) (hd:o.dst=some d) (hn:Nat.blt d K.n=true) (k:GP P K Q L os ((d,undef)::ρ) l r):GP P K Q L ((i,.r)::os) ρ l r:=
  fun a w ha=>⟨o,undef,kj hi,.inr ⟨ja hw ha.fr,rfl⟩,by rw[hd];exact k _ _ (ha.put hn undef)⟩
theorem GP.rd (h:wx P ρ l r o v) (hi:nth i L=some o) (hw:want L ρ o=some true) (hd:o.dst=some d) (hn:Nat.blt d K.n=true) (k:GP P K Q L os ((d,v)::ρ) l r):GP P K Q L ((i,.r)::os) ρ l r:=
  fun a w ha=>⟨o,v,kj hi,.inl ⟨ja hw ha.fr,.inl (h a w ha.fr ha.st)⟩,by rw[hd];exact k _ _ (ha.put hn v)⟩
theorem GP.bG {N:ba→List aU→Prop} (h:oL P K ρ l r o N) (hi:nth i L=some o) (hw:want L ρ o=some true) (k:∀ρ' l',N ρ' l'→GP P K Q L os ρ' l' r):GP P K Q L ((i,.e)::os) ρ l r:=by
  intro a w ha;show wpOp P L.toArray Q i (VB P L.toArray Q os) a w;unfold wpOp;rw[kj hi];simp only[];rw[if_pos (ja hw ha.fr)];left;exact h a w ha _ _ fun a' w' ⟨ρ',l',hN,hA⟩=>k ρ' l' hN a' w' hA
theorem GP.nil (h:GQ K Q .normal ρ l r):GP P K Q L [] ρ l r:=fun a w ha=>h a w ha
theorem GP.split {t:Nat} {p:Prop} [Decidable p] (hl:look t ρ=some (.bool (decide p))) (h1:p→GP P K Q L os ((t,.bool true)::ρ) l r) (h2:¬p→GP P K Q L os ((t,.bool false)::ρ) l r):GP P K Q L os ρ l r:=by
  intro a w ha;by_cases hp:p
  · exact h1 hp a w (ha.HR hl (decide_eq_true hp))
  · exact h2 hp a w (ha.HR hl (decide_eq_false hp))
section
variable {x y z:Operand} {ty cT:TypeId} {k:IntKind} {a b:Int} {m n:Nat} {u:Value}
theorem AR (ho:o.op=.move x) (hx:ev ρ x=some v):bB P ρ o v:=fun ac ha w=>by simp[execOp,ho,bU ha hx]
theorem pF (ho:o.op=.assign x) (hx:ev ρ x=some v):bB P ρ o v:=fun ac ha w=>by simp[execOp,ho,bU ha hx]
theorem QF (ho:o.op=.pick x y z) (hx:ev ρ x=some (.bool true)) (hy:ev ρ y=some v):bB P ρ o v:=fun ac ha w=>by simp[execOp,ho,bU ha hx,bU ha hy,asBool]
theorem QG (ho:o.op=.pick x y z) (hx:ev ρ x=some (.bool false)) (hz:ev ρ z=some v):bB P ρ o v:=fun ac ha w=>by simp[execOp,ho,bU ha hx,bU ha hz,asBool]
theorem alE {p:Addr} (ho:o.op=.nilCheck x) (hx:ev ρ x=some (.pointer (some p))):bB P ρ o (.pointer (some p)):=fun ac ha w=>by simp[execOp,ho,bU ha hx]
theorem alF {vs:Array Value} {i:Nat} (ho:o.op=.extract x i) (hx:ev ρ x=some (.tuple vs)) (hv:vs[i]? =some v):bB P ρ o v:=fun ac ha w=>by
  simp[execOp,ho,bU ha hx,Instr.extract,hv]
theorem km {bo:BinOp} (ho:o.op=.binOp bo ty x y cT) (hx:ev ρ x=some (.int k a)) (hy:ev ρ y=some (.int k b)) (h:∀w,(binOp bo ty (.int k a) (.int k b)).run P w=.ok u w):bB P ρ o u:=fun ac ha w=>by
  have e:(eqGuard bo ty x y (.int k a) (.int k b))=pure ():=by unfold eqGuard;split<;>rfl
  simp[execOp,ho,bU ha hx,bU ha hy,e,h]
theorem pR (ho:o.op=.binOp .add ty x y cT) (hx:ev ρ x=some (.int k a)) (hy:ev ρ y=some (.int k b)):bB P ρ o (.int k (k.wrap (a+b))):=km ho hx hy fun w=>by simp[binOp,Op.intArith]
theorem nV (ho:o.op=.binOp .sub ty x y cT) (hx:ev ρ x=some (.int k a)) (hy:ev ρ y=some (.int k b)):bB P ρ o (.int k (k.wrap (a-b))):=km ho hx hy fun w=>by simp[binOp,Op.intArith]
theorem vK (ho:o.op=.binOp .mul ty x y cT) (hx:ev ρ x=some (.int k a)) (hy:ev ρ y=some (.int k b)):bB P ρ o (.int k (k.wrap (a*b))):=km ho hx hy fun w=>by simp[binOp,Op.intArith]
theorem Ex (ho:o.op=.binOp .lss ty x y cT) (hx:ev ρ x=some (.int k a)) (hy:ev ρ y=some (.int k b)):bB P ρ o (.bool (decide (a<b))):=km ho hx hy fun w=>by simp[binOp,Op.intCmp]
theorem JD (ho:o.op=.binOp .leq ty x y cT) (hx:ev ρ x=some (.int k a)) (hy:ev ρ y=some (.int k b)):bB P ρ o (.bool (decide (a≤b))):=km ho hx hy fun w=>by simp[binOp,Op.intCmp]
theorem HT (ho:o.op=.binOp .gtr ty x y cT) (hx:ev ρ x=some (.int k a)) (hy:ev ρ y=some (.int k b)):bB P ρ o (.bool (decide (b<a))):=km ho hx hy fun w=>by simp[binOp,Op.intCmp]
theorem JE (ho:o.op=.binOp .geq ty x y cT) (hx:ev ρ x=some (.int k a)) (hy:ev ρ y=some (.int k b)):bB P ρ o (.bool (decide (b≤a))):=km ho hx hy fun w=>by simp[binOp,Op.intCmp]
theorem wy (ho:o.op=.binOp .eql ty x y cT) (hx:ev ρ x=some (.int k a)) (hy:ev ρ y=some (.int k b)):bB P ρ o (.bool (decide (a=b))):=km ho hx hy fun w=>by simp[binOp,Op.intCmp];rfl
theorem alG (ho:o.op=.binOp .neq ty x y cT) (hx:ev ρ x=some (.int k a)) (hy:ev ρ y=some (.int k b)):bB P ρ o (.bool (decide (a≠b))):=km ho hx hy fun w=>by
  simp[binOp,Op.intCmp,bne];by_cases h:a=b<;>simp[h]
end
end
section
variable {P:Program} {ρ:ba} {o:Oper} {v:Value} {x y:Operand} {ty cT:TypeId} {k k':IntKind} {a b:Int} {m n:Nat}
theorem bB.cast {u:Value} (h:bB P ρ o u) (e:u=v):bB P ρ o v:=e▸h
theorem xA {bo:BinOp} {u:Value} (ho:o.op=.binOp bo ty x y cT) (hx:ev ρ x=some (.int k a)) (hy:ev ρ y=some (.int k b)) (h:∀w,(Op.intBits bo k a b).run P w=.ok u w) (hb:bo=.and∨bo=.or∨bo=.xor∨bo=.andNot):bB P ρ o u:=
  km ho hx hy fun w=>by rcases hb with rfl|rfl|rfl|rfl<;>simpa [binOp] using h w
theorem u5 (ho:o.op=.binOp .and ty x y cT) (hx:ev ρ x=some (.int k a)) (hy:ev ρ y=some (.int k b)):bB P ρ o (.int k (k.wrap (BitVec.ofInt k.bits a&&&BitVec.ofInt k.bits b).toNat)):=xA ho hx hy (fun w=>by simp[Op.intBits]) Oi
theorem Cs (ho:o.op=.binOp .or ty x y cT) (hx:ev ρ x=some (.int k a)) (hy:ev ρ y=some (.int k b)):bB P ρ o (.int k (k.wrap (BitVec.ofInt k.bits a|||BitVec.ofInt k.bits b).toNat)):=xA ho hx hy (fun w=>by simp[Op.intBits]) Oi
theorem HU (ho:o.op=.binOp .andNot ty x y cT) (hx:ev ρ x=some (.int k a)) (hy:ev ρ y=some (.int k b)):bB P ρ o (.int k (k.wrap (BitVec.ofInt k.bits a&&& ~~~BitVec.ofInt k.bits b).toNat)):=xA ho hx hy (fun w=>by simp[Op.intBits]) Oi
theorem mv (ho:o.op=.binOp .shl ty x y cT) (hx:ev ρ x=some (.int k a)) (hy:ev ρ y=some (.int k' (n:Nat))):bB P ρ o (.int k (k.wrap (a*2^(min n k.bits)))):=fun ac ha w=>by
  have e:(eqGuard .shl ty x y (.int k a) (.int k' (n:Nat)))=pure ():=by unfold eqGuard;split<;>rfl
  simp[execOp,ho,bU ha hx,bU ha hy,e,binOp,Op.shift];intro h;omega
theorem sf (ho:o.op=.binOp .shr ty x y cT) (hx:ev ρ x=some (.int k a)) (hy:ev ρ y=some (.int k' (n:Nat))):bB P ρ o (.int k (a.fdiv (2^(min n k.bits)))):=fun ac ha w=>by
  have e:(eqGuard .shr ty x y (.int k a) (.int k' (n:Nat)))=pure ():=by unfold eqGuard;split<;>rfl
  simp[execOp,ho,bU ha hx,bU ha hy,e,binOp,Op.shift];intro h;omega
theorem xC (ho:o.op=.binOp .quo ty x y cT) (hx:ev ρ x=some (.int k a)) (hy:ev ρ y=some (.int k b)) (hb:b≠0):bB P ρ o (.int k (k.wrap (a.tdiv b))):=km ho hx hy fun w=>by simp[binOp,Op.intDiv,hb]
theorem adq {p:Prop} [Decidable p] (ho:o.op=.unOp .not ty x) (hx:ev ρ x=some (.bool (decide p))):bB P ρ o (.bool (decide (¬p))):=fun ac ha w=>by
  by_cases hp:p<;>simp[execOp,ho,bU ha hx,Op.unary,hp]
theorem AS {b:Bool} (ho:o.op=.unOp .not ty x) (hx:ev ρ x=some (.bool b)):bB P ρ o (.bool (!b)):=fun ac ha w=>by
  simp[execOp,ho,bU ha hx,Op.unary]
theorem adr (ho:o.op=.unOp .neg ty x) (hx:ev ρ x=some (.int k a)):bB P ρ o (.int k (k.wrap (-a))):=fun ac ha w=>by
  simp[execOp,ho,bU ha hx,Op.unary,Op.intArith]
theorem ko {s t:TypeId} {D:TypeDesc} (ho:o.op=.convert s t x) (hs:P.underlying s=some D) (ht:P.underlying t=some (.int k')) (hx:ev ρ x=some (.int k a)):bB P ρ o (.int k' (k'.wrap a)):=fun ac ha w=>by
  cases D<;>simp[execOp,ho,bU ha hx,convert,underlying,hs,ht,Conv.intToInt]
theorem oO (k:IntKind) (m n:Nat) (h:m<2^k.bits):((m:Nat):Int).fdiv (2^(min n k.bits))=((m/2^n:Nat):Int):=by
  have e:((2:Int)^(min n k.bits))=((2^(min n k.bits):Nat):Int):=Oi;rw[e,Int.fdiv_eq_ediv_of_nonneg _ (Int.natCast_nonneg _), ←Int.natCast_ediv];congr 1;rcases Nat.le_total n k.bits with h1|h1
  · rw[Nat.min_eq_left h1]
  · rw[Nat.min_eq_right h1,Nat.div_eq_of_lt h,Nat.div_eq_of_lt (Nat.lt_of_lt_of_le h (Nat.pow_le_pow_right Om h1))]
theorem f' (b m:Nat) (h:m<2^b):(BitVec.ofInt b (m:Int)).toNat=m:=by
  rw[BitVec.ofInt_natCast,BitVec.toNat_ofNat,Nat.mod_eq_of_lt h]
end
section
variable {P:Program} {ρ:ba} {o:Oper} {x y:Operand} {ty cT:TypeId} {k':IntKind} {a b:Int} {m n:Nat}
theorem QH (ho:o.op=.binOp .sub ty x y cT) (hx:ev ρ x=some (.int .i8 (m:Nat))) (hy:ev ρ y=some (.int .i8 (n:Nat))) (h:n≤m∧m≤127):bB P ρ o (.int .i8 ((m-n:Nat):Int)):=(nV ho hx hy).cast (by
  have e:((m:Nat):Int)-((n:Nat):Int)=((m-n:Nat):Int):=Om;rw[e,IntWalk.i8_in _ ⟨Om,Om⟩])
theorem VC {s t:TypeId} {D:TypeDesc} {k:IntKind} (ho:o.op=.convert s t x) (hs:P.underlying s=some D) (ht:P.underlying t=some (.int .i8)) (hx:ev ρ x=some (.int k (m:Nat))) (h:m≤127):bB P ρ o (.int .i8 ((m:Nat):Int)):=(ko ho hs ht hx).cast (by rw[IntWalk.i8_in _ ⟨Om,Om⟩])
theorem kp (ho:o.op=.binOp .add ty x y cT) (hx:ev ρ x=some (.int .i16 a)) (hy:ev ρ y=some (.int .i16 b)) (h: -32768≤a+b∧a+b≤32767):bB P ρ o (.int .i16 (a+b)):=(pR ho hx hy).cast (by rw[IntWalk.i16_in _ h])
theorem iq (ho:o.op=.binOp .sub ty x y cT) (hx:ev ρ x=some (.int .i16 a)) (hy:ev ρ y=some (.int .i16 b)) (h: -32768≤a-b∧a-b≤32767):bB P ρ o (.int .i16 (a-b)):=(nV ho hx hy).cast (by rw[IntWalk.i16_in _ h])
theorem JF (ho:o.op=.binOp .add ty x y cT) (hx:ev ρ x=some (.int .i16 (m:Nat))) (hy:ev ρ y=some (.int .i16 (n:Nat))) (h:m+n≤32767):bB P ρ o (.int .i16 ((m+n:Nat):Int)):=(pR ho hx hy).cast (by
  have e:((m:Nat):Int)+((n:Nat):Int)=((m+n:Nat):Int):=Oi;rw[e,IntWalk.i16_in _ ⟨Om,Om⟩])
theorem JG (ho:o.op=.binOp .mul ty x y cT) (hx:ev ρ x=some (.int .i16 (m:Nat))) (hy:ev ρ y=some (.int .i16 (n:Nat))) (h:m*n≤32767):bB P ρ o (.int .i16 ((m*n:Nat):Int)):=(vK ho hx hy).cast (by
  have e:((m:Nat):Int)*((n:Nat):Int)=((m*n:Nat):Int):=Oi;rw[e,IntWalk.i16_in _ ⟨Om,Om⟩])
theorem JH (ho:o.op=.binOp .sub ty x y cT) (hx:ev ρ x=some (.int .i16 (m:Nat))) (hy:ev ρ y=some (.int .i16 (n:Nat))) (h:n≤m∧m≤32767):bB P ρ o (.int .i16 ((m-n:Nat):Int)):=(nV ho hx hy).cast (by
  have e:((m:Nat):Int)-((n:Nat):Int)=((m-n:Nat):Int):=Om;rw[e,IntWalk.i16_in _ ⟨Om,Om⟩])
theorem JI (ho:o.op=.binOp .shr ty x y cT) (hx:ev ρ x=some (.int .i16 (m:Nat))) (hy:ev ρ y=some (.int k' (n:Nat))) (h:m<65536):bB P ρ o (.int .i16 ((m/2^n:Nat):Int)):=(sf ho hx hy).cast (by rw[oO _ _ _ (by simpa [IntKind.bits] using h)])
theorem JJ (ho:o.op=.binOp .shl ty x y cT) (hx:ev ρ x=some (.int .i16 (m:Nat))) (hy:ev ρ y=some (.int k' (n:Nat))) (hn:n≤16) (h:m*2^n≤32767):bB P ρ o (.int .i16 ((m*2^n:Nat):Int)):=(mv ho hx hy).cast (by
  have e:((m:Nat):Int)*2^(min n (IntKind.bits .i16))=((m*2^n:Nat):Int):=by
    rw[Nat.min_eq_left (by simpa [IntKind.bits] using hn)];simp
  rw[e,IntWalk.i16_in _ ⟨Om,Om⟩])
theorem QI {s t:TypeId} {D:TypeDesc} {k:IntKind} (ho:o.op=.convert s t x) (hs:P.underlying s=some D) (ht:P.underlying t=some (.int .i16)) (hx:ev ρ x=some (.int k (m:Nat))) (h:m≤32767):bB P ρ o (.int .i16 ((m:Nat):Int)):=(ko ho hs ht hx).cast (by rw[IntWalk.i16_in _ ⟨Om,Om⟩])
theorem Gw {s t:TypeId} {D:TypeDesc} {k:IntKind} (ho:o.op=.convert s t x) (hs:P.underlying s=some D) (ht:P.underlying t=some (.int .i16)) (hx:ev ρ x=some (.int k a)) (h: -32768≤a∧a≤32767):bB P ρ o (.int .i16 a):=(ko ho hs ht hx).cast (by rw[IntWalk.i16_in _ h])
theorem pS (ho:o.op=.binOp .add ty x y cT) (hx:ev ρ x=some (.int .i32 a)) (hy:ev ρ y=some (.int .i32 b)) (h: -2147483648≤a+b∧a+b≤2147483647):bB P ρ o (.int .i32 (a+b)):=(pR ho hx hy).cast (by rw[IntWalk.i32_in _ h])
theorem xD (ho:o.op=.binOp .sub ty x y cT) (hx:ev ρ x=some (.int .i32 a)) (hy:ev ρ y=some (.int .i32 b)) (h: -2147483648≤a-b∧a-b≤2147483647):bB P ρ o (.int .i32 (a-b)):=(nV ho hx hy).cast (by rw[IntWalk.i32_in _ h])
theorem JK (ho:o.op=.binOp .add ty x y cT) (hx:ev ρ x=some (.int .i32 (m:Nat))) (hy:ev ρ y=some (.int .i32 (n:Nat))) (h:m+n≤2147483647):bB P ρ o (.int .i32 ((m+n:Nat):Int)):=(pR ho hx hy).cast (by
  have e:((m:Nat):Int)+((n:Nat):Int)=((m+n:Nat):Int):=Oi;rw[e,IntWalk.i32_in _ ⟨Om,Om⟩])
theorem JL (ho:o.op=.binOp .mul ty x y cT) (hx:ev ρ x=some (.int .i32 (m:Nat))) (hy:ev ρ y=some (.int .i32 (n:Nat))) (h:m*n≤2147483647):bB P ρ o (.int .i32 ((m*n:Nat):Int)):=(vK ho hx hy).cast (by
  have e:((m:Nat):Int)*((n:Nat):Int)=((m*n:Nat):Int):=Oi;rw[e,IntWalk.i32_in _ ⟨Om,Om⟩])
theorem JM (ho:o.op=.binOp .sub ty x y cT) (hx:ev ρ x=some (.int .i32 (m:Nat))) (hy:ev ρ y=some (.int .i32 (n:Nat))) (h:n≤m∧m≤2147483647):bB P ρ o (.int .i32 ((m-n:Nat):Int)):=(nV ho hx hy).cast (by
  have e:((m:Nat):Int)-((n:Nat):Int)=((m-n:Nat):Int):=Om;rw[e,IntWalk.i32_in _ ⟨Om,Om⟩])
theorem JN (ho:o.op=.binOp .shr ty x y cT) (hx:ev ρ x=some (.int .i32 (m:Nat))) (hy:ev ρ y=some (.int k' (n:Nat))) (h:m<4294967296):bB P ρ o (.int .i32 ((m/2^n:Nat):Int)):=(sf ho hx hy).cast (by rw[oO _ _ _ (by simpa [IntKind.bits] using h)])
theorem JO (ho:o.op=.binOp .shl ty x y cT) (hx:ev ρ x=some (.int .i32 (m:Nat))) (hy:ev ρ y=some (.int k' (n:Nat))) (hn:n≤32) (h:m*2^n≤2147483647):bB P ρ o (.int .i32 ((m*2^n:Nat):Int)):=(mv ho hx hy).cast (by
  have e:((m:Nat):Int)*2^(min n (IntKind.bits .i32))=((m*2^n:Nat):Int):=by
    rw[Nat.min_eq_left (by simpa [IntKind.bits] using hn)];simp
  rw[e,IntWalk.i32_in _ ⟨Om,Om⟩])
theorem QJ {s t:TypeId} {D:TypeDesc} {k:IntKind} (ho:o.op=.convert s t x) (hs:P.underlying s=some D) (ht:P.underlying t=some (.int .i32)) (hx:ev ρ x=some (.int k (m:Nat))) (h:m≤2147483647):bB P ρ o (.int .i32 ((m:Nat):Int)):=(ko ho hs ht hx).cast (by rw[IntWalk.i32_in _ ⟨Om,Om⟩])
theorem wS {s t:TypeId} {D:TypeDesc} {k:IntKind} (ho:o.op=.convert s t x) (hs:P.underlying s=some D) (ht:P.underlying t=some (.int .i32)) (hx:ev ρ x=some (.int k a)) (h: -2147483648≤a∧a≤2147483647):bB P ρ o (.int .i32 a):=(ko ho hs ht hx).cast (by rw[IntWalk.i32_in _ h])
theorem xE (ho:o.op=.binOp .add ty x y cT) (hx:ev ρ x=some (.int .i64 a)) (hy:ev ρ y=some (.int .i64 b)) (h: -9223372036854775808≤a+b∧a+b≤9223372036854775807):bB P ρ o (.int .i64 (a+b)):=(pR ho hx hy).cast (by rw[IntWalk.i64_in _ h])
theorem iN (ho:o.op=.binOp .sub ty x y cT) (hx:ev ρ x=some (.int .i64 a)) (hy:ev ρ y=some (.int .i64 b)) (h: -9223372036854775808≤a-b∧a-b≤9223372036854775807):bB P ρ o (.int .i64 (a-b)):=(nV ho hx hy).cast (by rw[IntWalk.i64_in _ h])
theorem JP (ho:o.op=.binOp .mul ty x y cT) (hx:ev ρ x=some (.int .i64 a)) (hy:ev ρ y=some (.int .i64 b)) (h: -9223372036854775808≤a*b∧a*b≤9223372036854775807):bB P ρ o (.int .i64 (a*b)):=(vK ho hx hy).cast (by rw[IntWalk.i64_in _ h])
theorem JQ (ho:o.op=.binOp .add ty x y cT) (hx:ev ρ x=some (.int .i64 (m:Nat))) (hy:ev ρ y=some (.int .i64 (n:Nat))) (h:m+n≤9223372036854775807):bB P ρ o (.int .i64 ((m+n:Nat):Int)):=(pR ho hx hy).cast (by
  have e:((m:Nat):Int)+((n:Nat):Int)=((m+n:Nat):Int):=Oi;rw[e,IntWalk.i64_in _ ⟨Om,Om⟩])
theorem JR (ho:o.op=.binOp .mul ty x y cT) (hx:ev ρ x=some (.int .i64 (m:Nat))) (hy:ev ρ y=some (.int .i64 (n:Nat))) (h:m*n≤9223372036854775807):bB P ρ o (.int .i64 ((m*n:Nat):Int)):=(vK ho hx hy).cast (by
  have e:((m:Nat):Int)*((n:Nat):Int)=((m*n:Nat):Int):=Oi;rw[e,IntWalk.i64_in _ ⟨Om,Om⟩])
theorem JS (ho:o.op=.binOp .sub ty x y cT) (hx:ev ρ x=some (.int .i64 (m:Nat))) (hy:ev ρ y=some (.int .i64 (n:Nat))) (h:n≤m∧m≤9223372036854775807):bB P ρ o (.int .i64 ((m-n:Nat):Int)):=(nV ho hx hy).cast (by
  have e:((m:Nat):Int)-((n:Nat):Int)=((m-n:Nat):Int):=Om;rw[e,IntWalk.i64_in _ ⟨Om,Om⟩])
theorem JT (ho:o.op=.binOp .and ty x y cT) (hx:ev ρ x=some (.int .i64 (m:Nat))) (hy:ev ρ y=some (.int .i64 (n:Nat))) (h:m<9223372036854775808∨n<9223372036854775808) (hm:m<18446744073709551616) (hn:n<18446744073709551616):bB P ρ o (.int .i64 ((m&&&n:Nat):Int)):=(u5 ho hx hy).cast (by
  rw[BitVec.toNat_and,show IntKind.bits .i64=64 from rfl,f' _ _ hm,f' _ _ hn,IntWalk.i64_in _ ⟨Om,?_⟩];have h1:=@Nat.and_le_left m n;have h2:=@Nat.and_le_right m n;omega)
theorem QK (ho:o.op=.binOp .or ty x y cT) (hx:ev ρ x=some (.int .i64 (m:Nat))) (hy:ev ρ y=some (.int .i64 (n:Nat))) (hm:m<9223372036854775808) (hn:n<9223372036854775808):bB P ρ o (.int .i64 ((m|||n:Nat):Int)):=(Cs ho hx hy).cast (by
  rw[BitVec.toNat_or,show IntKind.bits .i64=64 from rfl,f' _ _ Om,f' _ _ Om,IntWalk.i64_in _ ⟨Om,?_⟩];have h1:=Nat.or_lt_two_pow (n:=63) (x:=m) (y:=n) Om Om;omega)
theorem JU (ho:o.op=.binOp .shr ty x y cT) (hx:ev ρ x=some (.int .i64 (m:Nat))) (hy:ev ρ y=some (.int k' (n:Nat))) (h:m<18446744073709551616):bB P ρ o (.int .i64 ((m/2^n:Nat):Int)):=(sf ho hx hy).cast (by rw[oO _ _ _ (by simpa [IntKind.bits] using h)])
theorem JV (ho:o.op=.binOp .shl ty x y cT) (hx:ev ρ x=some (.int .i64 (m:Nat))) (hy:ev ρ y=some (.int k' (n:Nat))) (hn:n≤64) (h:m*2^n≤9223372036854775807):bB P ρ o (.int .i64 ((m*2^n:Nat):Int)):=(mv ho hx hy).cast (by
  have e:((m:Nat):Int)*2^(min n (IntKind.bits .i64))=((m*2^n:Nat):Int):=by
    rw[Nat.min_eq_left (by simpa [IntKind.bits] using hn)];simp
  rw[e,IntWalk.i64_in _ ⟨Om,Om⟩])
theorem JW (ho:o.op=.binOp .quo ty x y cT) (hx:ev ρ x=some (.int .i64 (m:Nat))) (hy:ev ρ y=some (.int .i64 (n:Nat))) (h0:0<n) (hm:m≤9223372036854775807):bB P ρ o (.int .i64 ((m/n:Nat):Int)):=(xC ho hx hy Om).cast (by
  rw[Int.tdiv_eq_ediv_of_nonneg Om, ←Int.natCast_ediv];have h1:=Nat.div_le_self m n;generalize m/n=q at*;rw[IntWalk.i64_in _ ⟨Om,Om⟩])
theorem QL {s t:TypeId} {D:TypeDesc} {k:IntKind} (ho:o.op=.convert s t x) (hs:P.underlying s=some D) (ht:P.underlying t=some (.int .i64)) (hx:ev ρ x=some (.int k (m:Nat))) (h:m≤9223372036854775807):bB P ρ o (.int .i64 ((m:Nat):Int)):=(ko ho hs ht hx).cast (by rw[IntWalk.i64_in _ ⟨Om,Om⟩])
theorem QM {s t:TypeId} {D:TypeDesc} {k:IntKind} (ho:o.op=.convert s t x) (hs:P.underlying s=some D) (ht:P.underlying t=some (.int .i64)) (hx:ev ρ x=some (.int k a)) (h: -9223372036854775808≤a∧a≤9223372036854775807):bB P ρ o (.int .i64 a):=(ko ho hs ht hx).cast (by rw[IntWalk.i64_in _ h])
theorem QN (ho:o.op=.binOp .add ty x y cT) (hx:ev ρ x=some (.int .u8 (m:Nat))) (hy:ev ρ y=some (.int .u8 (n:Nat))) (h:m+n≤255):bB P ρ o (.int .u8 ((m+n:Nat):Int)):=(pR ho hx hy).cast (by
  have e:((m:Nat):Int)+((n:Nat):Int)=((m+n:Nat):Int):=Oi;rw[e,IntWalk.u8_in _ ⟨Om,Om⟩])
theorem QO (ho:o.op=.binOp .mul ty x y cT) (hx:ev ρ x=some (.int .u8 (m:Nat))) (hy:ev ρ y=some (.int .u8 (n:Nat))) (h:m*n≤255):bB P ρ o (.int .u8 ((m*n:Nat):Int)):=(vK ho hx hy).cast (by
  have e:((m:Nat):Int)*((n:Nat):Int)=((m*n:Nat):Int):=Oi;rw[e,IntWalk.u8_in _ ⟨Om,Om⟩])
theorem QP (ho:o.op=.binOp .sub ty x y cT) (hx:ev ρ x=some (.int .u8 (m:Nat))) (hy:ev ρ y=some (.int .u8 (n:Nat))) (h:n≤m∧m≤255):bB P ρ o (.int .u8 ((m-n:Nat):Int)):=(nV ho hx hy).cast (by
  have e:((m:Nat):Int)-((n:Nat):Int)=((m-n:Nat):Int):=Om;rw[e,IntWalk.u8_in _ ⟨Om,Om⟩])
theorem QQ (ho:o.op=.binOp .and ty x y cT) (hx:ev ρ x=some (.int .u8 (m:Nat))) (hy:ev ρ y=some (.int .u8 (n:Nat))) (h:m<256∨n<256) (hm:m<256) (hn:n<256):bB P ρ o (.int .u8 ((m&&&n:Nat):Int)):=(u5 ho hx hy).cast (by
  rw[BitVec.toNat_and,show IntKind.bits .u8=8 from rfl,f' _ _ hm,f' _ _ hn,IntWalk.u8_in _ ⟨Om,?_⟩];have h1:=@Nat.and_le_left m n;have h2:=@Nat.and_le_right m n;omega)
theorem AT (ho:o.op=.binOp .or ty x y cT) (hx:ev ρ x=some (.int .u8 (m:Nat))) (hy:ev ρ y=some (.int .u8 (n:Nat))) (hm:m<256) (hn:n<256):bB P ρ o (.int .u8 ((m|||n:Nat):Int)):=(Cs ho hx hy).cast (by
  rw[BitVec.toNat_or,show IntKind.bits .u8=8 from rfl,f' _ _ Om,f' _ _ Om,IntWalk.u8_in _ ⟨Om,?_⟩];have h1:=Nat.or_lt_two_pow (n:=8) (x:=m) (y:=n) Om Om;omega)
theorem QR (ho:o.op=.binOp .shr ty x y cT) (hx:ev ρ x=some (.int .u8 (m:Nat))) (hy:ev ρ y=some (.int k' (n:Nat))) (h:m<256):bB P ρ o (.int .u8 ((m/2^n:Nat):Int)):=(sf ho hx hy).cast (by rw[oO _ _ _ (by simpa [IntKind.bits] using h)])
theorem QS (ho:o.op=.binOp .shl ty x y cT) (hx:ev ρ x=some (.int .u8 (m:Nat))) (hy:ev ρ y=some (.int k' (n:Nat))) (hn:n≤8) (h:m*2^n≤255):bB P ρ o (.int .u8 ((m*2^n:Nat):Int)):=(mv ho hx hy).cast (by
  have e:((m:Nat):Int)*2^(min n (IntKind.bits .u8))=((m*2^n:Nat):Int):=by
    rw[Nat.min_eq_left (by simpa [IntKind.bits] using hn)];simp
  rw[e,IntWalk.u8_in _ ⟨Om,Om⟩])
theorem QT (ho:o.op=.binOp .quo ty x y cT) (hx:ev ρ x=some (.int .u8 (m:Nat))) (hy:ev ρ y=some (.int .u8 (n:Nat))) (h0:0<n) (hm:m≤255):bB P ρ o (.int .u8 ((m/n:Nat):Int)):=(xC ho hx hy Om).cast (by
  rw[Int.tdiv_eq_ediv_of_nonneg Om, ←Int.natCast_ediv];have h1:=Nat.div_le_self m n;generalize m/n=q at*;rw[IntWalk.u8_in _ ⟨Om,Om⟩])
theorem VD {s t:TypeId} {D:TypeDesc} {k:IntKind} (ho:o.op=.convert s t x) (hs:P.underlying s=some D) (ht:P.underlying t=some (.int .u8)) (hx:ev ρ x=some (.int k (m:Nat))) (h:m≤255):bB P ρ o (.int .u8 ((m:Nat):Int)):=(ko ho hs ht hx).cast (by rw[IntWalk.u8_in _ ⟨Om,Om⟩])
theorem ts (a:Int):IntKind.u8.wrap a=a%256:=by simp[IntKind.wrap,IntKind.bits,IntKind.signed]
theorem QU (ho:o.op=.binOp .add ty x y cT) (hx:ev ρ x=some (.int .u8 (m:Nat))) (hy:ev ρ y=some (.int .u8 (n:Nat))):bB P ρ o (.int .u8 (((m+n)%256:Nat):Int)):=(pR ho hx hy).cast (by rw[ts];simp)
theorem QV (ho:o.op=.binOp .sub ty x y cT) (hx:ev ρ x=some (.int .u8 (m:Nat))) (hy:ev ρ y=some (.int .u8 (n:Nat))) (h:n≤256):bB P ρ o (.int .u8 (((m+256-n)%256:Nat):Int)):=(nV ho hx hy).cast (by rw[ts];congr 1;omega)
theorem QW (ho:o.op=.binOp .shl ty x y cT) (hx:ev ρ x=some (.int .u8 (m:Nat))) (hy:ev ρ y=some (.int k' (n:Nat))):bB P ρ o (.int .u8 ((m*2^n%256:Nat):Int)):=(mv ho hx hy).cast (by
  rw[ts,show IntKind.bits .u8=8 from rfl];congr 1;rcases Nat.le_total n 8 with h1|h1
  · rw[Nat.min_eq_left h1];simp
  · rw[Nat.min_eq_right h1];have e:m*2^n=(m*2^(n-8))*256:=by rw[Nat.mul_assoc,show(256:Nat)=2^8 from rfl, ←Nat.pow_add];congr 2;omega
    rw[e,Nat.mul_mod_left];have:((m:Nat):Int)*2^8=(m:Int)*256:=Oi;omega)
theorem VE {s t:TypeId} {D:TypeDesc} {k:IntKind} (ho:o.op=.convert s t x) (hs:P.underlying s=some D) (ht:P.underlying t=some (.int .u8)) (hx:ev ρ x=some (.int k (m:Nat))):bB P ρ o (.int .u8 ((m%256:Nat):Int)):=(ko ho hs ht hx).cast (by rw[ts];simp)
theorem JX (ho:o.op=.binOp .add ty x y cT) (hx:ev ρ x=some (.int .u16 (m:Nat))) (hy:ev ρ y=some (.int .u16 (n:Nat))) (h:m+n≤65535):bB P ρ o (.int .u16 ((m+n:Nat):Int)):=(pR ho hx hy).cast (by
  have e:((m:Nat):Int)+((n:Nat):Int)=((m+n:Nat):Int):=Oi;rw[e,IntWalk.u16_in _ ⟨Om,Om⟩])
theorem JY (ho:o.op=.binOp .sub ty x y cT) (hx:ev ρ x=some (.int .u16 (m:Nat))) (hy:ev ρ y=some (.int .u16 (n:Nat))) (h:n≤m∧m≤65535):bB P ρ o (.int .u16 ((m-n:Nat):Int)):=(nV ho hx hy).cast (by
  have e:((m:Nat):Int)-((n:Nat):Int)=((m-n:Nat):Int):=Om;rw[e,IntWalk.u16_in _ ⟨Om,Om⟩])
theorem JZ (ho:o.op=.binOp .and ty x y cT) (hx:ev ρ x=some (.int .u16 (m:Nat))) (hy:ev ρ y=some (.int .u16 (n:Nat))) (h:m<65536∨n<65536) (hm:m<65536) (hn:n<65536):bB P ρ o (.int .u16 ((m&&&n:Nat):Int)):=(u5 ho hx hy).cast (by
  rw[BitVec.toNat_and,show IntKind.bits .u16=16 from rfl,f' _ _ hm,f' _ _ hn,IntWalk.u16_in _ ⟨Om,?_⟩];have h1:=@Nat.and_le_left m n;have h2:=@Nat.and_le_right m n;omega)
theorem QX (ho:o.op=.binOp .or ty x y cT) (hx:ev ρ x=some (.int .u16 (m:Nat))) (hy:ev ρ y=some (.int .u16 (n:Nat))) (hm:m<65536) (hn:n<65536):bB P ρ o (.int .u16 ((m|||n:Nat):Int)):=(Cs ho hx hy).cast (by
  rw[BitVec.toNat_or,show IntKind.bits .u16=16 from rfl,f' _ _ Om,f' _ _ Om,IntWalk.u16_in _ ⟨Om,?_⟩];have h1:=Nat.or_lt_two_pow (n:=16) (x:=m) (y:=n) Om Om;omega)
theorem J0 (ho:o.op=.binOp .shr ty x y cT) (hx:ev ρ x=some (.int .u16 (m:Nat))) (hy:ev ρ y=some (.int k' (n:Nat))) (h:m<65536):bB P ρ o (.int .u16 ((m/2^n:Nat):Int)):=(sf ho hx hy).cast (by rw[oO _ _ _ (by simpa [IntKind.bits] using h)])
theorem J1 (ho:o.op=.binOp .shl ty x y cT) (hx:ev ρ x=some (.int .u16 (m:Nat))) (hy:ev ρ y=some (.int k' (n:Nat))) (hn:n≤16) (h:m*2^n≤65535):bB P ρ o (.int .u16 ((m*2^n:Nat):Int)):=(mv ho hx hy).cast (by
  have e:((m:Nat):Int)*2^(min n (IntKind.bits .u16))=((m*2^n:Nat):Int):=by
    rw[Nat.min_eq_left (by simpa [IntKind.bits] using hn)];simp
  rw[e,IntWalk.u16_in _ ⟨Om,Om⟩])
theorem QY {s t:TypeId} {D:TypeDesc} {k:IntKind} (ho:o.op=.convert s t x) (hs:P.underlying s=some D) (ht:P.underlying t=some (.int .u16)) (hx:ev ρ x=some (.int k (m:Nat))) (h:m≤65535):bB P ρ o (.int .u16 ((m:Nat):Int)):=(ko ho hs ht hx).cast (by rw[IntWalk.u16_in _ ⟨Om,Om⟩])
theorem Gx {s t:TypeId} {D:TypeDesc} {k:IntKind} (ho:o.op=.convert s t x) (hs:P.underlying s=some D) (ht:P.underlying t=some (.int .u16)) (hx:ev ρ x=some (.int k a)) (h:0≤a∧a≤65535):bB P ρ o (.int .u16 a):=(ko ho hs ht hx).cast (by rw[IntWalk.u16_in _ h])
theorem zD (a:Int):IntKind.u16.wrap a=a%65536:=by simp[IntKind.wrap,IntKind.bits,IntKind.signed]
theorem J2 (ho:o.op=.binOp .shl ty x y cT) (hx:ev ρ x=some (.int .u16 (m:Nat))) (hy:ev ρ y=some (.int k' (n:Nat))):bB P ρ o (.int .u16 ((m*2^n%65536:Nat):Int)):=(mv ho hx hy).cast (by
  rw[zD,show IntKind.bits .u16=16 from rfl];congr 1;rcases Nat.le_total n 16 with h1|h1
  · rw[Nat.min_eq_left h1];simp
  · rw[Nat.min_eq_right h1];have e:m*2^n=(m*2^(n-16))*65536:=by rw[Nat.mul_assoc,show(65536:Nat)=2^16 from rfl, ←Nat.pow_add];congr 2;omega
    rw[e,Nat.mul_mod_left];have:((m:Nat):Int)*2^16=(m:Int)*65536:=Oi;omega)
theorem QZ {s t:TypeId} {D:TypeDesc} {k:IntKind} (ho:o.op=.convert s t x) (hs:P.underlying s=some D) (ht:P.underlying t=some (.int .u16)) (hx:ev ρ x=some (.int k (m:Nat))):bB P ρ o (.int .u16 ((m%65536:Nat):Int)):=(ko ho hs ht hx).cast (by rw[zD];simp)
theorem J3 (ho:o.op=.binOp .add ty x y cT) (hx:ev ρ x=some (.int .u32 (m:Nat))) (hy:ev ρ y=some (.int .u32 (n:Nat))) (h:m+n≤4294967295):bB P ρ o (.int .u32 ((m+n:Nat):Int)):=(pR ho hx hy).cast (by
  have e:((m:Nat):Int)+((n:Nat):Int)=((m+n:Nat):Int):=Oi;rw[e,IntWalk.u32_in _ ⟨Om,Om⟩])
theorem J4 (ho:o.op=.binOp .mul ty x y cT) (hx:ev ρ x=some (.int .u32 (m:Nat))) (hy:ev ρ y=some (.int .u32 (n:Nat))) (h:m*n≤4294967295):bB P ρ o (.int .u32 ((m*n:Nat):Int)):=(vK ho hx hy).cast (by
  have e:((m:Nat):Int)*((n:Nat):Int)=((m*n:Nat):Int):=Oi;rw[e,IntWalk.u32_in _ ⟨Om,Om⟩])
theorem J5 (ho:o.op=.binOp .sub ty x y cT) (hx:ev ρ x=some (.int .u32 (m:Nat))) (hy:ev ρ y=some (.int .u32 (n:Nat))) (h:n≤m∧m≤4294967295):bB P ρ o (.int .u32 ((m-n:Nat):Int)):=(nV ho hx hy).cast (by
  have e:((m:Nat):Int)-((n:Nat):Int)=((m-n:Nat):Int):=Om;rw[e,IntWalk.u32_in _ ⟨Om,Om⟩])
theorem J6 (ho:o.op=.binOp .and ty x y cT) (hx:ev ρ x=some (.int .u32 (m:Nat))) (hy:ev ρ y=some (.int .u32 (n:Nat))) (h:m<4294967296∨n<4294967296) (hm:m<4294967296) (hn:n<4294967296):bB P ρ o (.int .u32 ((m&&&n:Nat):Int)):=(u5 ho hx hy).cast (by
  rw[BitVec.toNat_and,show IntKind.bits .u32=32 from rfl,f' _ _ hm,f' _ _ hn,IntWalk.u32_in _ ⟨Om,?_⟩];have h1:=@Nat.and_le_left m n;have h2:=@Nat.and_le_right m n;omega)
theorem lX (ho:o.op=.binOp .or ty x y cT) (hx:ev ρ x=some (.int .u32 (m:Nat))) (hy:ev ρ y=some (.int .u32 (n:Nat))) (hm:m<4294967296) (hn:n<4294967296):bB P ρ o (.int .u32 ((m|||n:Nat):Int)):=(Cs ho hx hy).cast (by
  rw[BitVec.toNat_or,show IntKind.bits .u32=32 from rfl,f' _ _ Om,f' _ _ Om,IntWalk.u32_in _ ⟨Om,?_⟩];have h1:=Nat.or_lt_two_pow (n:=32) (x:=m) (y:=n) Om Om;omega)
theorem J7 (ho:o.op=.binOp .shr ty x y cT) (hx:ev ρ x=some (.int .u32 (m:Nat))) (hy:ev ρ y=some (.int k' (n:Nat))) (h:m<4294967296):bB P ρ o (.int .u32 ((m/2^n:Nat):Int)):=(sf ho hx hy).cast (by rw[oO _ _ _ (by simpa [IntKind.bits] using h)])
theorem J8 (ho:o.op=.binOp .shl ty x y cT) (hx:ev ρ x=some (.int .u32 (m:Nat))) (hy:ev ρ y=some (.int k' (n:Nat))) (hn:n≤32) (h:m*2^n≤4294967295):bB P ρ o (.int .u32 ((m*2^n:Nat):Int)):=(mv ho hx hy).cast (by
  have e:((m:Nat):Int)*2^(min n (IntKind.bits .u32))=((m*2^n:Nat):Int):=by
    rw[Nat.min_eq_left (by simpa [IntKind.bits] using hn)];simp
  rw[e,IntWalk.u32_in _ ⟨Om,Om⟩])
theorem J9 (ho:o.op=.binOp .quo ty x y cT) (hx:ev ρ x=some (.int .u32 (m:Nat))) (hy:ev ρ y=some (.int .u32 (n:Nat))) (h0:0<n) (hm:m≤4294967295):bB P ρ o (.int .u32 ((m/n:Nat):Int)):=(xC ho hx hy Om).cast (by
  rw[Int.tdiv_eq_ediv_of_nonneg Om, ←Int.natCast_ediv];have h1:=Nat.div_le_self m n;generalize m/n=q at*;rw[IntWalk.u32_in _ ⟨Om,Om⟩])
theorem Q1 {s t:TypeId} {D:TypeDesc} {k:IntKind} (ho:o.op=.convert s t x) (hs:P.underlying s=some D) (ht:P.underlying t=some (.int .u32)) (hx:ev ρ x=some (.int k (m:Nat))) (h:m≤4294967295):bB P ρ o (.int .u32 ((m:Nat):Int)):=(ko ho hs ht hx).cast (by rw[IntWalk.u32_in _ ⟨Om,Om⟩])
theorem AU {s t:TypeId} {D:TypeDesc} {k:IntKind} (ho:o.op=.convert s t x) (hs:P.underlying s=some D) (ht:P.underlying t=some (.int .u32)) (hx:ev ρ x=some (.int k a)) (h:0≤a∧a≤4294967295):bB P ρ o (.int .u32 a):=(ko ho hs ht hx).cast (by rw[IntWalk.u32_in _ h])
theorem qI (a:Int):IntKind.u32.wrap a=a%4294967296:=by simp[IntKind.wrap,IntKind.bits,IntKind.signed]
theorem J' (ho:o.op=.binOp .mul ty x y cT) (hx:ev ρ x=some (.int .u32 (m:Nat))) (hy:ev ρ y=some (.int .u32 (n:Nat))):bB P ρ o (.int .u32 (((m*n)%4294967296:Nat):Int)):=(vK ho hx hy).cast (by rw[qI];simp)
theorem Ka (ho:o.op=.binOp .sub ty x y cT) (hx:ev ρ x=some (.int .u32 (m:Nat))) (hy:ev ρ y=some (.int .u32 (n:Nat))) (h:n≤4294967296):bB P ρ o (.int .u32 (((m+4294967296-n)%4294967296:Nat):Int)):=(nV ho hx hy).cast (by rw[qI];congr 1;omega)
theorem Kb (ho:o.op=.binOp .shl ty x y cT) (hx:ev ρ x=some (.int .u32 (m:Nat))) (hy:ev ρ y=some (.int k' (n:Nat))):bB P ρ o (.int .u32 ((m*2^n%4294967296:Nat):Int)):=(mv ho hx hy).cast (by
  rw[qI,show IntKind.bits .u32=32 from rfl];congr 1;rcases Nat.le_total n 32 with h1|h1
  · rw[Nat.min_eq_left h1];simp
  · rw[Nat.min_eq_right h1];have e:m*2^n=(m*2^(n-32))*4294967296:=by rw[Nat.mul_assoc,show(4294967296:Nat)=2^32 from rfl, ←Nat.pow_add];congr 2;omega
    rw[e,Nat.mul_mod_left];have:((m:Nat):Int)*2^32=(m:Int)*4294967296:=Oi;omega)
theorem Q2 {s t:TypeId} {D:TypeDesc} {k:IntKind} (ho:o.op=.convert s t x) (hs:P.underlying s=some D) (ht:P.underlying t=some (.int .u32)) (hx:ev ρ x=some (.int k (m:Nat))):bB P ρ o (.int .u32 ((m%4294967296:Nat):Int)):=(ko ho hs ht hx).cast (by rw[qI];simp)
theorem Kc (ho:o.op=.binOp .add ty x y cT) (hx:ev ρ x=some (.int .u64 (m:Nat))) (hy:ev ρ y=some (.int .u64 (n:Nat))) (h:m+n≤18446744073709551615):bB P ρ o (.int .u64 ((m+n:Nat):Int)):=(pR ho hx hy).cast (by
  have e:((m:Nat):Int)+((n:Nat):Int)=((m+n:Nat):Int):=Oi;rw[e,IntWalk.u64_in _ ⟨Om,Om⟩])
theorem Ke (ho:o.op=.binOp .mul ty x y cT) (hx:ev ρ x=some (.int .u64 (m:Nat))) (hy:ev ρ y=some (.int .u64 (n:Nat))) (h:m*n≤18446744073709551615):bB P ρ o (.int .u64 ((m*n:Nat):Int)):=(vK ho hx hy).cast (by
  have e:((m:Nat):Int)*((n:Nat):Int)=((m*n:Nat):Int):=Oi;rw[e,IntWalk.u64_in _ ⟨Om,Om⟩])
theorem Kf (ho:o.op=.binOp .sub ty x y cT) (hx:ev ρ x=some (.int .u64 (m:Nat))) (hy:ev ρ y=some (.int .u64 (n:Nat))) (h:n≤m∧m≤18446744073709551615):bB P ρ o (.int .u64 ((m-n:Nat):Int)):=(nV ho hx hy).cast (by
  have e:((m:Nat):Int)-((n:Nat):Int)=((m-n:Nat):Int):=Om;rw[e,IntWalk.u64_in _ ⟨Om,Om⟩])
theorem Kg (ho:o.op=.binOp .and ty x y cT) (hx:ev ρ x=some (.int .u64 (m:Nat))) (hy:ev ρ y=some (.int .u64 (n:Nat))) (h:m<18446744073709551616∨n<18446744073709551616) (hm:m<18446744073709551616) (hn:n<18446744073709551616):bB P ρ o (.int .u64 ((m&&&n:Nat):Int)):=(u5 ho hx hy).cast (by
  rw[BitVec.toNat_and,show IntKind.bits .u64=64 from rfl,f' _ _ hm,f' _ _ hn,IntWalk.u64_in _ ⟨Om,?_⟩];have h1:=@Nat.and_le_left m n;have h2:=@Nat.and_le_right m n;omega)
theorem oQ (ho:o.op=.binOp .or ty x y cT) (hx:ev ρ x=some (.int .u64 (m:Nat))) (hy:ev ρ y=some (.int .u64 (n:Nat))) (hm:m<18446744073709551616) (hn:n<18446744073709551616):bB P ρ o (.int .u64 ((m|||n:Nat):Int)):=(Cs ho hx hy).cast (by
  rw[BitVec.toNat_or,show IntKind.bits .u64=64 from rfl,f' _ _ Om,f' _ _ Om,IntWalk.u64_in _ ⟨Om,?_⟩];have h1:=Nat.or_lt_two_pow (n:=64) (x:=m) (y:=n) Om Om;omega)
theorem Kh (ho:o.op=.binOp .shr ty x y cT) (hx:ev ρ x=some (.int .u64 (m:Nat))) (hy:ev ρ y=some (.int k' (n:Nat))) (h:m<18446744073709551616):bB P ρ o (.int .u64 ((m/2^n:Nat):Int)):=(sf ho hx hy).cast (by rw[oO _ _ _ (by simpa [IntKind.bits] using h)])
theorem Ki (ho:o.op=.binOp .shl ty x y cT) (hx:ev ρ x=some (.int .u64 (m:Nat))) (hy:ev ρ y=some (.int k' (n:Nat))) (hn:n≤64) (h:m*2^n≤18446744073709551615):bB P ρ o (.int .u64 ((m*2^n:Nat):Int)):=(mv ho hx hy).cast (by
  have e:((m:Nat):Int)*2^(min n (IntKind.bits .u64))=((m*2^n:Nat):Int):=by
    rw[Nat.min_eq_left (by simpa [IntKind.bits] using hn)];simp
  rw[e,IntWalk.u64_in _ ⟨Om,Om⟩])
theorem Kj (ho:o.op=.binOp .quo ty x y cT) (hx:ev ρ x=some (.int .u64 (m:Nat))) (hy:ev ρ y=some (.int .u64 (n:Nat))) (h0:0<n) (hm:m≤18446744073709551615):bB P ρ o (.int .u64 ((m/n:Nat):Int)):=(xC ho hx hy Om).cast (by
  rw[Int.tdiv_eq_ediv_of_nonneg Om, ←Int.natCast_ediv];have h1:=Nat.div_le_self m n;generalize m/n=q at*;rw[IntWalk.u64_in _ ⟨Om,Om⟩])
theorem Q3 {s t:TypeId} {D:TypeDesc} {k:IntKind} (ho:o.op=.convert s t x) (hs:P.underlying s=some D) (ht:P.underlying t=some (.int .u64)) (hx:ev ρ x=some (.int k (m:Nat))) (h:m≤18446744073709551615):bB P ρ o (.int .u64 ((m:Nat):Int)):=(ko ho hs ht hx).cast (by rw[IntWalk.u64_in _ ⟨Om,Om⟩])
theorem HV (a:Int):IntKind.u64.wrap a=a%18446744073709551616:=by simp[IntKind.wrap,IntKind.bits,IntKind.signed]
theorem Kk (ho:o.op=.binOp .shl ty x y cT) (hx:ev ρ x=some (.int .u64 (m:Nat))) (hy:ev ρ y=some (.int k' (n:Nat))):bB P ρ o (.int .u64 ((m*2^n%18446744073709551616:Nat):Int)):=(mv ho hx hy).cast (by
  rw[HV,show IntKind.bits .u64=64 from rfl];congr 1;rcases Nat.le_total n 64 with h1|h1
  · rw[Nat.min_eq_left h1];simp
  · rw[Nat.min_eq_right h1];have e:m*2^n=(m*2^(n-64))*18446744073709551616:=by rw[Nat.mul_assoc,show(18446744073709551616:Nat)=2^64 from rfl, ←Nat.pow_add];congr 2;omega
    rw[e,Nat.mul_mod_left];have:((m:Nat):Int)*2^64=(m:Int)*18446744073709551616:=Oi;omega)
theorem Ct (ho:o.op=.binOp .andNot ty x y cT) (hx:ev ρ x=some (.int .u64 (m:Nat))) (hy:ev ρ y=some (.int .u64 (n:Nat))) (hm:m<18446744073709551616) (hn:n<18446744073709551616):bB P ρ o (.int .u64 ((m&&&(18446744073709551615-n):Nat):Int)):=(HU ho hx hy).cast (by
  rw[BitVec.toNat_and,BitVec.toNat_not,show IntKind.bits .u64=64 from rfl,f' _ _ hm,f' _ _ hn,show 2^64-1-n=18446744073709551615-n from by omega,IntWalk.u64_in _ ⟨Om,?_⟩];have h1:=@Nat.and_le_left m (18446744073709551615-n);omega)
end
def fieldOff (P:Program) (s f:Nat):Option Nat:=
  match P.underlying s with
  |some (.struct fs)=>match fs[f]? with
    |some fl=>match P.info? fl.type with
      |some i=>if i.size=0 then none else some fl.offset
      |none=>none
    |none=>none
  |_=>none
def cY (P:Program) (t:Nat):Option Nat:=(P.info? t).map (·.size)
def cy (P:Program) (t:Nat):Option Nat:=
  match P.underlying t with
  |some (.slice e)=>cY P e
  |_=>none
def ew (P:Program) (t:Nat):Option (Nat × Nat):=
  match P.underlying t with
  |some (.array n e)=>(cY P e).map fun s=>(n,s)
  |_=>none
def fS (P:Program) (t:Nat):Option Bool:=
  match P.underlying t with
  |some (.struct _)=>some true
  |some (.array _ _)=>some true
  |some _=>some false
  |none=>none
def gk (P:Program) (t:Nat):Option (List Value):=(P.info? t).bind fun i=>i.zero.map fun z=>z.cells.toList
def nthS:Nat→List aU→Option aU
  |_,[]=>none
  |0,s::_=>some s
  |n+1,_::l=>nthS n l
def setS:Nat→aU→List aU→List aU
  |_,_,[]=>[]
  |0,s,_::l=>s::l
  |n+1,s,t::l=>t::setS n s l
theorem ed:∀(i:Nat) (l:List aU) (s:aU),nthS i l=some s→s ∈ l
  |_,[],_,h=>by simp[nthS] at h
  |0,t::l,s,h=>by simp[nthS] at h;simp[h]
  |n+1,t::l,s,h=>List.mem_cons_of_mem _ (ed n l s h)
theorem ly {P:Program} {t:Nat} {i:TypeInfo} (h:P.info? t=some i) (w:World):(typeInfo t).run P w=.ok i w:=by
  simp[typeInfo,h]
theorem du {P:Program} {t n:Nat} (h:cY P t=some n) (w:World):(sizeOf t).run P w=.ok n w:=by
  unfold cY at h;cases hi:P.info? t with
  |none=>simp[hi] at h
  |some i=>simp[hi] at h;simp[sizeOf,ly hi,h]
theorem br {P:Program} {t:Nat} {D:TypeDesc} (h:P.underlying t=some D) (w:World):(underlying t).run P w=.ok D w:=by
  simp[underlying,h]
theorem qJ {P:Program} {t:Nat} {b:Bool} (h:fS P t=some b) (w:World):(isAgg t).run P w=.ok b w:=by
  unfold fS at h;cases hu:P.underlying t with
  |none=>simp[hu] at h
  |some D=>cases D<;>simp[hu] at h<;>simp[isAgg,br hu,h]
theorem dK (b q n:Nat):(⟨b,q,none⟩:Addr).add n=⟨b,q+n,none⟩:=by unfold Addr.add;split<;>simp_all
section
variable {P:Program} {K:Kx} {Q:Exit→Act→World→Prop} {ρ:ba} {l r:List aU} {o:Oper} {v:Value} {x y z:Operand} {t s f sz n m len cap b q j:Nat} {k:IntKind}
theorem alH (ho:o.op=.fieldAddr s x f) (hx:ev ρ x=some (.pointer (some ⟨b,q,none⟩))) (hP:fieldOff P s f=some n):bB P ρ o (.pointer (some ⟨b,q+n,none⟩)):=fun ac ha w=>by
  unfold fieldOff at hP;cases hu:P.underlying s with
  |none=>simp[hu] at hP
  |some D=>
    cases D<;>simp[hu] at hP;rename_i fs;cases hf:fs[f]? with
    |none=>simp[hf] at hP
    |some fl=>
      simp only[hf] at hP;cases hi:P.info? fl.type with
      |none=>simp[hi] at hP
      |some i=>
        simp only[hi] at hP;split at hP
        · cases hP
        · rename_i uY;have hn:=Option.some.inj hP;subst hn;simp[execOp,ho,bU ha hx,Instr.fieldAt,br hu,hf,Instr.sureAddr,fieldPlace,sizeOf,ly hi,uY,dK]
theorem eQ {q':Nat} (ho:o.op=.indexAddr t x y) (hx:ev ρ x=some (.slice (some ⟨b,q,none⟩) len cap)) (hy:ev ρ y=some (.int k (m:Nat))) (hP:cy P t=some sz) (h:m<len) (hq:q+m*sz=q'):bB P ρ o (.pointer (some ⟨b,q',none⟩)):=by
  subst hq;intro ac ha w;unfold cy at hP;cases hu:P.underlying t with
  |none=>simp[hu] at hP
  |some D=>
    cases D<;>simp[hu] at hP;simp[execOp,ho,bU ha hx,bU ha hy,Instr.indexAt,asIntOf,br hu,h,du hP,dK]
theorem ads {q':Nat} (ho:o.op=.indexAddr t x y) (hx:ev ρ x=some (.slice (some ⟨b,q,none⟩) len cap)) (hy:ev ρ y=some (.int k (m:Nat))) (hP:cy P t=some 1) (h:m<len) (hq:q+m=q'):bB P ρ o (.pointer (some ⟨b,q',none⟩)):=
  eQ ho hx hy hP h (by rw[Nat.mul_one];exact hq)
theorem adt {q':Nat} (ho:o.op=.indexAddr t x y) (hx:ev ρ x=some (.pointer (some ⟨b,q,none⟩))) (hy:ev ρ y=some (.int k (m:Nat))) (hP:ew P t=some (n,sz)) (h:m<n) (hq:q+m*sz=q'):bB P ρ o (.pointer (some ⟨b,q',none⟩)):=by
  subst hq;intro ac ha w;unfold ew at hP;cases hu:P.underlying t with
  |none=>simp[hu] at hP
  |some D=>
    cases D<;>simp[hu] at hP;obtain⟨h1,rfl⟩:=hP;simp[execOp,ho,bU ha hx,bU ha hy,Instr.indexAt,asIntOf,br hu,h,du h1,dK,Instr.sureAddr]
theorem adu {q':Nat} (ho:o.op=.indexAddr t x y) (hx:ev ρ x=some (.pointer (some ⟨b,q,none⟩))) (hy:ev ρ y=some (.int k (m:Nat))) (hP:ew P t=some (n,1)) (h:m<n) (hq:q+m=q'):bB P ρ o (.pointer (some ⟨b,q',none⟩)):=
  adt ho hx hy hP h (by rw[Nat.mul_one];exact hq)
theorem Gy {s:aU} {w:World} (h:s.pE w) (hc:s.cs[j]? =some v) (hq:q=s.o+j):w.cell? ⟨s.b,q,none⟩=some v:=by subst hq;exact h.1 j v hc
theorem zE {w:World} (hP:fS P t=some false) (hc:w.cell? ⟨b,q,none⟩=some v):(Instr.loadAt t (.pointer (some ⟨b,q,none⟩))).run P w=.ok v w:=by
  simp[Instr.loadAt,Instr.sureAddr,loadVar,qJ hP,hc]
theorem bf {sg:aU} (i j:Nat) (hs:nthS i l=some sg) (ho:o.op=.load t x) (hx:ev ρ x=some (.pointer (some ⟨sg.b,q,none⟩))) (hP:fS P t=some false) (hq:q=sg.o+j) (hc:sg.cs[j]? =some v):wx P ρ l r o v:=fun ac w ha jl=>by
  simp[execOp,ho,bU ha hx,zE hP (Gy (jl.hl sg (ed _ _ _ hs)) hc hq)]
theorem mw {sg:aU} (i j:Nat) (hs:nthS i r=some sg) (ho:o.op=.load t x) (hx:ev ρ x=some (.pointer (some ⟨sg.b,q,none⟩))) (hP:fS P t=some false) (hq:q=sg.o+j) (hc:sg.cs[j]? =some v):wx P ρ l r o v:=fun ac w ha jl=>by
  simp[execOp,ho,bU ha hx,zE hP (Gy (jl.hr sg (ed _ _ _ hs)) hc hq)]
theorem Q4 {s s':aU} (h1:s'.b=s.b) (h2:s'.o=s.o) (h3:s'.cs.length=s.cs.length) (b j:Nat):s'.has b j↔s.has b j:=by unfold aU.has;rw[h1,h2,h3]
theorem tu:∀(i:Nat) (s':aU) (l:List aU) (u:aU),u ∈ setS i s' l→u=s'∨u ∈ l
  |_,_,[],u,h=>by simp[setS] at h
  |0,s',t::l,u,h=>by simp[setS] at h;rcases h with h|h<;>simp[h]
  |n+1,s',t::l,u,h=>by
    simp only[setS,List.mem_cons] at h;rcases h with h|h
    · simp[h]
    · rcases tu n s' l u h with h'|h'<;>simp[h']
theorem zF:∀(i:Nat) (s s':aU) (l:List aU) (u:aU),nthS i l=some s→l.Pairwise aU.apart→u ∈ setS i s' l→u=s'∨(u ∈ l∧u.apart s)
  |_,_,_,[],u,_,_,h=>by simp[setS] at h
  |0,s,s',t::l,u,hn,hp,h=>by
    simp[nthS] at hn;subst hn;simp only[setS,List.mem_cons] at h;rcases h with h|h
    · exact .inl h
    · exact .inr ⟨List.mem_cons_of_mem _ h,(List.rel_of_pairwise_cons hp h).symm⟩
  |n+1,s,s',t::l,u,hn,hp,h=>by
    simp only[nthS] at hn;simp only[setS,List.mem_cons] at h;rcases h with h|h
    · subst h;exact .inr ⟨List.mem_cons_self,List.rel_of_pairwise_cons hp (ed n l s hn)⟩
    · rcases zF n s s' l u hn (List.Pairwise.of_cons hp) h with h'|h'
      · exact .inl h'
      · exact .inr ⟨List.mem_cons_of_mem _ h'.1,h'.2⟩
theorem Gz:∀(i:Nat) (s s':aU) (l:List aU),nthS i l=some s→(∀b j,s'.has b j↔s.has b j)→l.Pairwise aU.apart→(setS i s' l).Pairwise aU.apart
  |_,_,_,[],_,_,_=>by simp[setS]
  |0,s,s',t::l,hn,hh,hp=>by
    simp[nthS] at hn;subst hn;simp only[setS];refine List.Pairwise.cons (fun u hu b j h1 h2=>?_) (List.Pairwise.of_cons hp);exact List.rel_of_pairwise_cons hp hu b j ((hh b j).1 h1) h2
  |n+1,s,s',t::l,hn,hh,hp=>by
    simp only[nthS] at hn;simp only[setS];refine List.Pairwise.cons (fun u hu b j h1 h2=>?_) (Gz n s s' l hn hh (List.Pairwise.of_cons hp));rcases tu n s' l u hu with h|h
    · subst h;exact List.rel_of_pairwise_cons hp (ed n l s hn) b j h1 ((hh b j).1 h2)
    · exact List.rel_of_pairwise_cons hp h b j h1 h2
theorem At.store {a:Act} {w:World} {sg:aU} {i:Nat} (h:At K ρ l r a w) (hs:nthS i l=some sg) (hj:j<sg.cs.length) (v:Value):
    At K ρ (setS i ⟨sg.b,sg.o,sg.cs.set j v,sg.sh⟩ l) r a (w.setCell ⟨sg.b,sg.o+j,none⟩ v):=by
  have hm:=ed _ _ _ hs;have adw:sg.has sg.b (sg.o+j):=⟨rfl,Om,Om⟩;have hh:∀b j',(⟨sg.b,sg.o,sg.cs.set j v,sg.sh⟩:aU).has b j'↔sg.has b j':=Q4 rfl rfl Oi;have hk:gH [sg] w (w.setCell ⟨sg.b,sg.o+j,none⟩ v):=gH.setCell w v ⟨sg,Oi,adw⟩;have ks:=h.st.hl sg hm;have hold:∀u:aU,u.pE w→u.apart sg→u.pE (w.setCell ⟨sg.b,sg.o+j,none⟩ v):=fun u hu wv=>by
    refine⟨fun j' v' zC=>?_,fun j' HQ=>?_,fun x hx=>?_⟩
    · rw[World.cell?_setCell_other]
      · exact hu.1 j' v' zC
      · intro e;injection e with e1 e2;have fg:j'<u.cs.length:=by
          rcases Nat.lt_or_ge j' u.cs.length with h'|h'
          · exact h'
          · simp[List.getElem?_eq_none h'] at zC
        exact wv sg.b (sg.o+j) ⟨e1.symm,Om,Om⟩ adw
    · rw[World.frozen?_setCell];exact hu.2.1 j' HQ
    · exact hk.shape (hu.2.2 x hx)
  have VF:(⟨sg.b,sg.o,sg.cs.set j v,sg.sh⟩:aU).pE (w.setCell ⟨sg.b,sg.o+j,none⟩ v):=by
    refine⟨fun j' v' zC=>?_,fun j' HQ=>?_,fun x hx=>hk.shape (ks.2.2 x hx)⟩
    · simp only[List.getElem?_set] at zC;by_cases e:j=j'
      · subst e;simp[hj] at zC;subst zC;exact World.cell?_setCell_same w _ v (ks.1 j (sg.cs[j]) (by simp[hj]))
      · rw[if_neg e] at zC;show World.cell? _ ⟨sg.b,sg.o+j',none⟩=_;rw[World.cell?_setCell_other]
        · exact ks.1 j' v' zC
        · intro e';injection e' with e1 e2;omega
    · show World.frozen? _ ⟨sg.b,sg.o+j',none⟩=_;rw[World.frozen?_setCell];exact ks.2.1 j' (by simpa using HQ)
  refine⟨h.size,h.defers,h.fr,h.keeps.trans' hk ?_,⟨?_,?_,Gz i sg _ l hs hh h.st.pw,?_⟩,?_⟩
  · intro s hs' b j' hb;rw[List.mem_singleton] at hs';subst hs';exact h.own s hm b j' hb
  · intro u hu;rcases zF i sg _ l u hs h.st.pw hu with h'|h'
    · subst h';exact VF
    · exact hold u (h.st.hl u h'.1) h'.2
  · intro u hu;exact hold u (h.st.hr u hu) (h.st.lr sg hm u hu).symm
  · intro u hu t ht;rcases tu i _ l u hu with h'|h'
    · subst h';intro b j' h1 h2;exact h.st.lr sg hm t ht b j' ((hh b j').1 h1) h2
    · exact h.st.lr u h' t ht
  · intro u hu b j' hb;rcases tu i _ l u hu with h'|h'
    · subst h';exact h.own sg hm b j' ((hh b j').1 hb)
    · exact h.own u h' b j' hb
theorem vL {a:Addr} {w:World} {u:Value} (hv:v.oneCell'=true) (hc:w.cell? a=some u) (hf:w.frozen? a=false):(store a v).run P w=.ok () (w.setCell a v):=by
  rw[run_store _ _ _ _ _ hv,hc];simp[hf]
theorem HX (hv:v.oneCell'=true):v.cells= #[v]:=by cases v<;>first|rfl|(simp[Value.oneCell'] at hv)
theorem gj {sg:aU} (i j:Nat) {kd:List Value} (hs:nthS i l=some sg) (ho:o.op=.store t x y) (hx:ev ρ x=some (.pointer (some ⟨sg.b,q,none⟩))) (hy:ev ρ y=some v) (hP:cY P t=some 1) (hv:v.oneCell'=true)
    (hq:q=sg.o+j) (hj:j<sg.cs.length) (hd:o.dst=none) (hc:sg.cs.set j v=kd):oL P K ρ l r o (fun ρ' l'=>ρ'=ρ∧l'=setS i ⟨sg.b,sg.o,kd,sg.sh⟩ l):=by
  intro a w ha nx Q px;have hm:=ed _ _ _ hs;have ks:=ha.st.hl sg hm;subst hq;have kQ:w.cell? ⟨sg.b,sg.o+j,none⟩=some sg.cs[j]:=ks.1 j _ (by simp[hj]);unfold Oper.wp;have e:(execOp a.eval o).run P w=.ok .skip (w.setCell ⟨sg.b,sg.o+j,none⟩ v):=by
    simp[execOp,ho,bU ha.fr hx,bU ha.fr hy,Instr.storeAt,Instr.sureAddr,storeVar,du hP,HX hv,storeCells,Addr.add,vL (P:=P) hv kQ (ks.2.1 _ hj)]
  rw[e];simp only[Oper.upon,hd,Act.put];exact px _ _ ⟨ρ,_,⟨rfl,rfl⟩,by rw[←hc];exact ha.store hs hj v⟩
end
def takeOut:Nat→List aU→Option (aU × List aU)
  |_,[]=>none
  |0,s::l=>some (s,l)
  |n+1,t::l=>match takeOut n l with
    |some (s,l')=>some (s,t::l')
    |none=>none
def pickS:List Nat→List aU→Option (List aU × List aU)
  |[],l=>some ([],l)
  |i::is,l=>match takeOut i l with
    |some (s,l1)=>match pickS is l1 with
      |some (p,rest)=>some (s::p,rest)
      |none=>none
    |none=>none
def pickR:List Nat→List aU→Option (List aU)
  |[],_=>some []
  |i::is,l=>match nthS i l with
    |some s=>match pickR is l with
      |some p=>some (s::p)
      |none=>none
    |none=>none
theorem tv:∀(i:Nat) (l:List aU) (s:aU) (l':List aU),takeOut i l=some (s,l')→l.Perm (s::l')
  |_,[],_,_,h=>by simp[takeOut] at h
  |0,t::l,s,l',h=>by simp[takeOut] at h;obtain⟨rfl,rfl⟩:=h;exact .refl _
  |n+1,t::l,s,l',h=>by
    simp only[takeOut] at h;cases ht:takeOut n l with
    |none=>simp[ht] at h
    |some p=>
      obtain⟨s1,l1⟩:=p;simp[ht] at h;obtain⟨rfl,rfl⟩:=h;exact((tv n l s1 l1 ht).cons t).trans (.swap _ _ _)
theorem my:∀(is:List Nat) (l p rest:List aU),pickS is l=some (p,rest)→l.Perm (p++rest)
  |[],l,p,rest,h=>by simp[pickS] at h;obtain⟨rfl,rfl⟩:=h;exact .refl _
  |i::is,l,p,rest,h=>by
    simp only[pickS] at h;cases ht:takeOut i l with
    |none=>simp[ht] at h
    |some q=>
      obtain⟨s,l1⟩:=q;simp only[ht] at h;cases hp:pickS is l1 with
      |none=>simp[hp] at h
      |some q2=>
        obtain⟨p1,adx⟩:=q2;simp[hp] at h;obtain⟨rfl,rfl⟩:=h;exact(tv i l s l1 ht).trans ((my is l1 p1 adx hp).cons s)
theorem u6:∀(is:List Nat) (l p:List aU),pickR is l=some p→∀s ∈ p,s ∈ l
  |[],l,p,h,s,hs=>by simp[pickR] at h;subst h;cases hs
  |i::is,l,p,h,s,hs=>by
    simp only[pickR] at h;cases ht:nthS i l with
    |none=>simp[ht] at h
    |some q=>
      simp only[ht] at h;cases hp:pickR is l with
      |none=>simp[hp] at h
      |some p1=>
        simp[hp] at h;subst h;rcases List.mem_cons.1 hs with h'|h'
        · subst h';exact ed _ _ _ ht
        · exact u6 is l p1 hp s h'
theorem St.perm {l l2 r:List aU} {w:World} (h:St l r w) (hp:l.Perm l2):St l2 r w:=
  ⟨fun s hs=>h.hl s (hp.mem_iff.2 hs),h.hr,(hp.pairwise_iff (fun h=>h.symm)).1 h.pw,fun s hs=>h.lr s (hp.mem_iff.2 hs)⟩
theorem St.left {l l2 r:List aU} {w:World} (h:St (l++l2) r w):St l r w:=
  ⟨fun s hs=>h.hl s (List.mem_append_left _ hs),h.hr,(List.pairwise_append.1 h.pw).1,fun s hs=>h.lr s (List.mem_append_left _ hs)⟩
theorem At.perm {K:Kx} {ρ:ba} {l l2 r:List aU} {a:Act} {w:World} (h:At K ρ l r a w) (hp:l.Perm l2):At K ρ l2 r a w:=
  ⟨h.size,h.defers,h.fr,h.keeps,h.st.perm hp,fun s hs=>h.own s (hp.mem_iff.2 hs)⟩
theorem At.left {K:Kx} {ρ:ba} {l l2 r:List aU} {a:Act} {w:World} (h:At K ρ (l++l2) r a w):At K ρ l r a w:=
  ⟨h.size,h.defers,h.fr,h.keeps,h.st.left,fun s hs=>h.own s (List.mem_append_left _ hs)⟩
theorem At.pick {K:Kx} {ρ:ba} {l p rest r:List aU} {a:Act} {w:World} (is:List Nat) (h:At K ρ l r a w) (hp:pickS is l=some (p,rest)):At K ρ p r a w:=
  (h.perm (my _ _ _ _ hp)).left
def Cu (P:Program) (f:FuncId):Prop:=∃fn,P.funcs[f]? =some fn∧(fn.name== "runtime.NumGoroutine")=false∧fn.body.isNone=false
structure Ends (ee:Value→List aU→Prop) (l r:List aU) (w:World) (e:Ending) (w':World):Prop where
  mk'::
  out:∃v l',e=.returned v∧ee v l'∧gH l w w'∧St l' r w'∧∀s ∈ l',∀b j:Nat,s.has b j→(∃t ∈ l,t.has b j)∨w.heap.size≤b
structure bI (P:Program) (f:FuncId) (args:List Value) (l r:List aU) (ee:Value→List aU→Prop):Prop where
  can:Cu P f
  run:∀w,St l r w→Calls P f args.toArray w (Ends ee l r w)
def frArgs:Nat→List Value→ba
  |_,[]=>[]
  |i,v::vs=>(i,v)::frArgs (i+1) vs
theorem zG:∀(vs:List Value) (i t:Nat) (v:Value),look t (frArgs i vs)=some v→i≤t∧vs[t-i]? =some v
  |[],i,t,v,h=>by simp[frArgs,look] at h
  |u::vs,i,t,v,h=>by
    simp only[frArgs,look,cond_eq_ite] at h;by_cases e:Nat.beq i t=true
    · have e':=Nat.eq_of_beq_eq_true e;subst e';rw[if_pos e] at h;simp at h;simp[h]
    · rw[if_neg e] at h;obtain⟨h1,h2⟩:=zG vs (i+1) t v h;refine⟨Om,?_⟩;have:t-i=(t-(i+1))+1:=Om;rw[this];simpa using h2
theorem bI.intro {P:Program} {f:FuncId} {fn:Func} {c:Code} {args:List Value} {l r:List aU} {ee:Value→List aU→Prop} (hf:P.funcs[f]? =some fn) (hb:fn.body=some c) (Kl:(fn.name== "runtime.NumGoroutine")=false) (hn:args.length≤fn.ntmps)
    (h:∀w0,G P ⟨fn.ntmps,l,w0⟩ (bodyPost P fn (Ends ee l r w0)) c (frArgs 0 args) l r):bI P f args l r ee:=by
  refine⟨⟨fn,hf,Kl,by simp[hb]⟩,fun w jl=>calls_of_wp hf hb (h w _ w ⟨?_,rfl,?_,.refl _ _,jl,fun s hs b j hh=>.inl ⟨s,hs,hh⟩⟩)⟩
  · simp;omega
  · intro t v ht;obtain⟨_,h2⟩:=zG args 0 t v ht;have fg:t<args.length:=by
      rcases Nat.lt_or_ge t args.length with h'|h'
      · exact h'
      · simp[List.getElem?_eq_none h'] at h2
    simp at h2 ⊢;simp[Array.getElem?_append,fg];simpa [fg] using h2
theorem bI.mono {P:Program} {f:FuncId} {args:List Value} {l r:List aU} {ee Tz:Value→List aU→Prop} (h:bI P f args l r ee) (hp:∀v l',ee v l'→Tz v l'):bI P f args l r Tz:=
  ⟨h.can,fun w jl=>(h.run w jl).mono fun e w' ⟨v,l',h1,h2,h3⟩=>⟨v,l',h1,hp _ _ h2,h3⟩⟩
def evs (ρ:ba):List Operand→Option (List Value)
  |[]=>some []
  |x::xs=>match ev ρ x with
    |some v=>match evs ρ xs with
      |some vs=>some (v::vs)
      |none=>none
    |none=>none
theorem pT {ρ:ba} {a:Act} (ha:tq ρ a):∀(xs:List Operand) (vs:List Value),evs ρ xs=some vs→xs.map a.eval=vs
  |[],vs,h=>by simp[evs] at h;simp[h]
  |x::xs,vs,h=>by
    simp only[evs] at h;cases hx:ev ρ x with
    |none=>simp[hx] at h
    |some v=>
      simp only[hx] at h;cases hxs:evs ρ xs with
      |none=>simp[hxs] at h
      |some us=>
        simp[hxs] at h;subst h;simp[bU ha hx,pT ha xs us hxs]
section
variable {P:Program} {K:Kx} {Q:Exit→Act→World→Prop} {ρ:ba} {l r:List aU} {o:Oper} {v:Value}
theorem oR {f:FuncId} (h:Cu P f) (args:Array Value) (w:World):(callFunc f args).run P w=.ok (.enter f args) w:=by
  obtain⟨fn,hf,hn,hb⟩:=h;simp only[callFunc,Sem.run_bind,run_program,Result.andThen_ok,hf];rw[if_neg (by rw[hn];simp),if_neg (by rw[hb];simp)]
  rfl
theorem At.u7 {a:Act} {w w':World} {lc rest rc wB:List aU} (ha:At K ρ (lc++rest) r a w) (Jb:∀s ∈ rc,s ∈ rest++r) (hk:gH lc w w') (jl:St wB rc w')
    (Cv:∀s ∈ wB,∀b j:Nat,s.has b j→(∃t ∈ lc,t.has b j)∨w.heap.size≤b):At K ρ (wB++rest) r a w':=by
  have ks:=ha.st;have TA:=List.pairwise_append.1 ks.pw;have TB:∀s:aU,s.pE w→(∀t ∈ lc,t.apart s)→s.pE w':=fun s hs wv=>hs.Jt hk wv
  have TC:∀s ∈ wB,∀t:aU,t.pE w→(∀u ∈ lc,u.apart t)→s.apart t:=fun s hs t ht wv b j h1 h2=>by
    rcases Cv s hs b j h1 with ⟨u,hu,TD⟩|wq
    · exact wv u hu b j TD h2
    · have:=ht.lt h2;omega
  have tm:∀t ∈ rest,∀u ∈ lc,u.apart t:=fun t ht u hu=>TA.2.2 u hu t ht
  refine⟨ha.size,ha.defers,ha.fr,ha.keeps.trans' hk fun s hs b j hh=>ha.own s (List.mem_append_left _ hs) b j hh,⟨?_,?_,?_,?_⟩,?_⟩
  · intro s hs;rcases List.mem_append.1 hs with h|h
    · exact jl.hl s h
    · exact TB s (ks.hl s (List.mem_append_right _ h)) (tm s h)
  · intro s hs;exact TB s (ks.hr s hs) fun t ht=>ks.lr t (List.mem_append_left _ ht) s hs
  · refine List.pairwise_append.2 ⟨jl.pw,TA.2.1,fun s hs t ht=>TC s hs t (ks.hl t (List.mem_append_right _ ht)) (tm t ht)⟩
  · intro s hs t ht;rcases List.mem_append.1 hs with h|h
    · exact TC s h t (ks.hr t ht) fun u hu=>ks.lr u (List.mem_append_left _ hu) t ht
    · exact ks.lr s (List.mem_append_right _ h) t ht
  · intro s hs b j hh;rcases List.mem_append.1 hs with h|h
    · rcases Cv s h b j hh with ⟨u,hu,TD⟩|wq
      · exact ha.own u (List.mem_append_left _ hu) b j TD
      · exact .inr (Nat.le_trans ha.keeps.size wq)
    · exact ha.own s (List.mem_append_right _ h) b j hh
theorem St.Km {l r rc rest:List aU} {w:World} (h:St (l++rest) r w) (Jb:∀s ∈ rc,s ∈ rest++r):St l rc w:=by
  have TA:=List.pairwise_append.1 h.pw;refine⟨fun s hs=>h.hl s (List.mem_append_left _ hs),fun s hs=>?_,TA.1,fun s hs t ht=>?_⟩
  · rcases List.mem_append.1 (Jb s hs) with h'|h'
    · exact h.hl s (List.mem_append_right _ h')
    · exact h.hr s h'
  · rcases List.mem_append.1 (Jb t ht) with h'|h'
    · exact TA.2.2 s hs t h'
    · exact h.lr s (List.mem_append_left _ hs) t h'
theorem u9 {c:Call} {f:FuncId} {args:List Value} {lc rest rc:List aU} {ee:Value→List aU→Prop} {d:Nat} (is rs:List Nat) (uX:bI P f args lc rc ee) (ho:o.op=.call c) (hf:c.callee=.value (.func f)) (jZ:evs ρ c.args.toList=some args)
    (hl:pickS is l=some (lc,rest)) (hr:pickR rs (rest++r)=some rc) (hd:o.dst=some d) (hn:Nat.blt d K.n=true):
    oL P K ρ l r o (fun ρ' l'=>∃v wB,ee v wB∧ρ'=(d,v)::ρ∧l'=wB++rest):=by
  intro a w ha nx Q px;have hA:=ha.perm (my _ _ _ _ hl);have Jb:=u6 _ _ _ hr;have hca:=uX.run w (hA.st.Km Jb);have kS:(c.args.map a.eval)=args.toArray:=by
    have:=pT ha.fr _ _ jZ;apply Array.toList_inj.1;simpa using this
  have e:(execOp a.eval o).run P w=.ok (.enter f args.toArray) w:=by
    simp[execOp,ho,resolve,hf,kS,Act.eval,Deferred.ofValue,invoke,oR uX.can]
  unfold Oper.wp;rw[e];simp only[Oper.upon];refine hca.mono fun e w' hE=>?_
  obtain⟨v,wB,rfl,hP,hk,jl,Cv⟩:=hE.out;simp only[hd];exact px _ _ ⟨(d,v)::ρ,wB++rest,⟨v,wB,hP,rfl,rfl⟩,(hA.u7 Jb hk jl Cv).put hn v⟩
theorem oS {ee:Value→List aU→Prop} {l0 l' r:List aU} {w0:World} {n:Nat} {a:Act} {w:World} {ρ:ba} (h:At ⟨n,l0,w0⟩ ρ l' r a w) (hP:ee v l'):Ends ee l0 r w0 (.returned v) w:=
  ⟨v,l',rfl,hP,h.keeps,h.st,h.own⟩
variable {fn:Func} {ee:Value→List aU→Prop} {l0:List aU} {w0:World} {n:Nat} {p rest:List aU}
theorem dL (is:List Nat) (u':fn.results= #[]) (hp:pickS is l=some (p,rest)) (hP:ee (.tuple #[]) p):GQ ⟨n,l0,w0⟩ (bodyPost P fn (Ends ee l0 r w0)) .normal ρ l r:=
  fun a w ha=>⟨ha.defers,_,by simp[results,u'],oS (ha.pick is hp) hP⟩
theorem pU (is:List Nat) (u':fn.results= #[]) (hp:pickS is l=some (p,rest)) (hP:ee (.tuple #[]) p):GQ ⟨n,l0,w0⟩ (bodyPost P fn (Ends ee l0 r w0)) .ret ρ l r:=
  fun a w ha=>⟨ha.defers,_,by simp[results,u'],oS (ha.pick is hp) hP⟩
theorem AV {a:Act} (ha:tq ρ a) {t:Nat} (h:look t ρ=some v):a.tmps.getD t undef=v:=by simp[ha t v h]
theorem bu {t:Nat} (is:List Nat) (u':fn.results= #[.tmp t]) (hv:look t ρ=some v) (hp:pickS is l=some (p,rest)) (hP:ee v p):GQ ⟨n,l0,w0⟩ (bodyPost P fn (Ends ee l0 r w0)) .ret ρ l r:=
  fun a w ha=>⟨ha.defers,v,by rw[results_tmp u',AV ha.fr hv],oS (ha.pick is hp) hP⟩
theorem lz {t1 t2:Nat} {v1 v2:Value} (is:List Nat) (u':fn.results= #[.tmp t1,.tmp t2]) (Ef:look t1 ρ=some v1) (y':look t2 ρ=some v2) (hp:pickS is l=some (p,rest)) (hP:ee (.tuple #[v1,v2]) p):
    GQ ⟨n,l0,w0⟩ (bodyPost P fn (Ends ee l0 r w0)) .ret ρ l r:=
  fun a w ha=>⟨ha.defers,_,by rw[results_tmp2 u',AV ha.fr Ef,AV ha.fr y'],oS (ha.pick is hp) hP⟩
theorem tx {t1 t2 t3:Nat} {v1 v2 v3:Value} (is:List Nat) (u':fn.results= #[.tmp t1,.tmp t2,.tmp t3]) (Ef:look t1 ρ=some v1) (y':look t2 ρ=some v2) (Q5:look t3 ρ=some v3) (hp:pickS is l=some (p,rest)) (hP:ee (.tuple #[v1,v2,v3]) p):
    GQ ⟨n,l0,w0⟩ (bodyPost P fn (Ends ee l0 r w0)) .ret ρ l r:=
  fun a w ha=>⟨ha.defers,_,by simp[results,u',ha.fr _ _ Ef,ha.fr _ _ y',ha.fr _ _ Q5],oS (ha.pick is hp) hP⟩
theorem Cw {t1 t2 t3 t4:Nat} {v1 v2 v3 v4:Value} (is:List Nat) (u':fn.results= #[.tmp t1,.tmp t2,.tmp t3,.tmp t4]) (Ef:look t1 ρ=some v1) (y':look t2 ρ=some v2) (Q5:look t3 ρ=some v3) (hv4:look t4 ρ=some v4) (hp:pickS is l=some (p,rest)) (hP:ee (.tuple #[v1,v2,v3,v4]) p):
    GQ ⟨n,l0,w0⟩ (bodyPost P fn (Ends ee l0 r w0)) .ret ρ l r:=
  fun a w ha=>⟨ha.defers,_,by simp[results,u',ha.fr _ _ Ef,ha.fr _ _ y',ha.fr _ _ Q5,ha.fr _ _ hv4],oS (ha.pick is hp) hP⟩
end
def aa (k:IntKind) (xs:List Nat):List Value:=xs.map fun n=>.int k ((n:Nat):Int)
def ints (k:IntKind) (xs:List Int):List Value:=xs.map fun n=>.int k n
theorem af {k:IntKind} {xs:List Nat} {j:Nat} (h:j<xs.length):(aa k xs)[j]? =some (.int k ((xs.getD j 0:Nat):Int)):=by simp[aa,h]
theorem ir {k:IntKind} {xs:List Int} {j:Nat} (h:j<xs.length):(ints k xs)[j]? =some (.int k (xs.getD j 0)):=by simp[ints,h]
theorem xF (k:IntKind) (xs:List Nat) (j v:Nat):(aa k xs).set j (.int k ((v:Nat):Int))=aa k (xs.set j v):=by simp[aa,List.map_set]
theorem ints_set (k:IntKind) (xs:List Int) (j:Nat) (v:Int):(ints k xs).set j (.int k v)=ints k (xs.set j v):=by simp[ints,List.map_set]
@[simp] theorem iO (k:IntKind) (xs:List Nat):(aa k xs).length=xs.length:=by simp[aa]
@[simp] theorem TF (k:IntKind) (xs:List Int):(ints k xs).length=xs.length:=by simp[ints]
section
variable {P:Program} {K:Kx} {Q:Exit→Act→World→Prop} {ρ:ba} {l r:List aU} {o:Oper} {v:Value} {x y z:Operand} {t s f sz n m lo hi len cap b q j:Nat} {k k':IntKind}
theorem run_loadCellsFrom {w:World} (a:Addr):∀(n i:Nat) (vs acc:Array Value),(∀j,j<n→w.cell? (a.add (i+j))=some (vs.getD j undef))→vs.size=n→(loadCellsFrom a i n acc).run P w=.ok (acc++vs) w
  |0,i,vs,acc,h,hs=>by
    have:vs= #[]:=by apply Array.eq_empty_of_size_eq_zero hs
    simp[loadCellsFrom,this]
  |n+1,i,vs,acc,h,hs=>by
    have h0:=h 0 Om;simp only[Nat.add_zero] at h0;obtain⟨L⟩:=vs;cases L with
    |nil=>simp at hs
    |cons v vs=>
      simp at hs;have ih:=run_loadCellsFrom (w:=w) a n (i+1) vs.toArray (acc.push v) (fun j hj=>by
        have:=h (j+1) Om;rw[show i+1+j=i+(j+1) by omega,this];simp) (by simp[hs])
      simp at h0;simp only[loadCellsFrom,Sem.run_bind,run_load,h0,Result.andThen_ok,ih];simp
theorem zH {w:World} {vs:List Value} (hP:fS P t=some true) (hz:cY P t=some vs.length) (h:∀j,j<vs.length→w.cell? ⟨b,q+j,none⟩=some (vs.getD j undef)):(Instr.loadAt t (.pointer (some ⟨b,q,none⟩))).run P w=.ok (.agg vs.toArray) w:=by
  have:=run_loadCellsFrom (P:=P) (w:=w) ⟨b,q,none⟩ vs.length 0 vs.toArray #[] (fun j hj=>by rw[dK,Nat.zero_add,h j hj];simp) Oi;simp[Instr.loadAt,Instr.sureAddr,loadVar,qJ hP,du hz,loadCells,this]
theorem GA {p:Addr} (ho:o.op=.load t x) (hx:ev ρ x=some (.pointer (some p))) (hP:fS P t=some true) (hz:cY P t=some 0):bB P ρ o (.agg #[]):=fun ac ha w=>by
  simp[execOp,ho,bU ha hx,Instr.loadAt,Instr.sureAddr,loadVar,qJ hP,du hz,loadCells,loadCellsFrom]
theorem xG {cs vs:List Value} {i:Nat} (hv:(cs.drop j).take n=vs) (hn:vs.length=n) (hi:i<n):cs[j+i]? =some (vs.getD i undef):=by
  have h1:vs[i]? =cs[j+i]? :=by rw[←hv,List.getElem?_take,if_pos hi,List.getElem?_drop]
  rw[←h1,List.getD_eq_getElem?_getD,List.getElem?_eq_getElem Om];rfl
theorem zI {sg:aU} {vs:List Value} (i j:Nat) (hs:nthS i l=some sg) (ho:o.op=.load t x) (hx:ev ρ x=some (.pointer (some ⟨sg.b,q,none⟩))) (hP:fS P t=some true) (hz:cY P t=some n) (hq:q=sg.o+j) (hv:(sg.cs.drop j).take n=vs) (hn:vs.length=n):wx P ρ l r o (.agg vs.toArray):=fun ac w ha jl=>by
  have ks:=jl.hl sg (ed _ _ _ hs);have e:=zH (P:=P) (w:=w) (b:=sg.b) (q:=q) (vs:=vs) hP (by rw[hz,hn]) (fun i hi=>by
    subst hq;rw[show sg.o+j+i=sg.o+(j+i) by omega];exact ks.1 (j+i) _ (xG hv hn Om))
  simp[execOp,ho,bU ha hx,e]
theorem aN {sg:aU} {vs:List Value} (i j:Nat) (hs:nthS i r=some sg) (ho:o.op=.load t x) (hx:ev ρ x=some (.pointer (some ⟨sg.b,q,none⟩))) (hP:fS P t=some true) (hz:cY P t=some n) (hq:q=sg.o+j) (hv:(sg.cs.drop j).take n=vs) (hn:vs.length=n):wx P ρ l r o (.agg vs.toArray):=fun ac w ha jl=>by
  have ks:=jl.hr sg (ed _ _ _ hs);have e:=zH (P:=P) (w:=w) (b:=sg.b) (q:=q) (vs:=vs) hP (by rw[hz,hn]) (fun i hi=>by
    subst hq;rw[show sg.o+j+i=sg.o+(j+i) by omega];exact ks.1 (j+i) _ (xG hv hn Om))
  simp[execOp,ho,bU ha hx,e]
def spl (cs:List Value) (j:Nat):List Value→List Value
  |[]=>cs
  |v::vs=>spl (cs.set j v) (j+1) vs
theorem mA:∀(vs cs:List Value) (j:Nat),(spl cs j vs).length=cs.length
  |[],_,_=>rfl
  |v::vs,cs,j=>by simp[spl,mA vs]
theorem zJ:∀(i:Nat) (s t:aU) (l:List aU),setS i s (setS i t l)=setS i s l
  |_,_,_,[]=>by simp[setS]
  |0,_,_,_::_=>rfl
  |n+1,s,t,_::l=>by simp[setS,zJ n s t l]
theorem zK:∀(i:Nat) (s t:aU) (l:List aU),nthS i l=some t→nthS i (setS i s l)=some s
  |_,_,_,[],h=>by simp[nthS] at h
  |0,_,_,_::_,_=>rfl
  |n+1,s,t,_::l,h=>by simp only[nthS,setS] at h ⊢;exact zK n s t l h
theorem jb:∀(i:Nat) (s:aU) (l:List aU),nthS i l=some s→setS i s l=l
  |_,_,[],h=>by simp[nthS] at h
  |0,_,_::_,h=>by simp[nthS] at h;simp[setS,h]
  |n+1,s,_::l,h=>by simp only[nthS,setS] at h ⊢;rw[jb n s l h]
theorem iP {a:Act}:∀(vs:List Value) (i0 j:Nat) (l:List aU) (w:World) (sg:aU) (i:Nat) (b q:Nat),At K ρ l r a w→nthS i l=some sg→b=sg.b→q+i0=sg.o+j→j+vs.length≤sg.cs.length→(∀v ∈ vs,v.oneCell'=true)→
    ∃w',(storeCells ⟨b,q,none⟩ vs i0).run P w=.ok () w'∧At K ρ (setS i ⟨sg.b,sg.o,spl sg.cs j vs,sg.sh⟩ l) r a w'
  |[],i0,j,l,w,sg,i,b,q,ha,hs,_,_,_,_=>⟨w,rfl,by
      have:(⟨sg.b,sg.o,spl sg.cs j [],sg.sh⟩:aU)=sg:=rfl;rw[this,jb i sg l hs];exact ha⟩
  |v::vs,i0,j,l,w,sg,i,b,q,ha,hs,hb,hq,hj,hv=>by
    simp only[List.length_cons] at hj;subst hb;have h1:=ha.store hs (j:=j) Om v;have ks:=ha.st.hl sg (ed _ _ _ hs);have kQ:w.cell? ⟨sg.b,sg.o+j,none⟩=some (sg.cs[j]' Om):=ks.1 j _ Oi;obtain⟨w',hr,hA⟩:=iP vs (i0+1) (j+1) _ _ ⟨sg.b,sg.o,sg.cs.set j v,sg.sh⟩ i sg.b q h1 (zK i _ _ _ hs) rfl (show q+(i0+1)=sg.o+(j+1) by omega) Oz (fun u hu=>hv u (List.mem_cons_of_mem _ hu));refine⟨w',?_,by rw[zJ] at hA;exact hA⟩;simp only[storeCells,Sem.run_bind,dK,hq,vL (P:=P) (hv v List.mem_cons_self) kQ (ks.2.1 j Om),Result.andThen_ok];exact hr
theorem GB {sg:aU} {vs:List Value} (i j:Nat) {kd:List Value} (hs:nthS i l=some sg) (ho:o.op=.store t x y) (hx:ev ρ x=some (.pointer (some ⟨sg.b,q,none⟩))) (hy:ev ρ y=some (.agg vs.toArray)) (hP:cY P t=some n) (hn:vs.length=n) (hv:(vs.all fun u=>u.oneCell')=true)
    (hq:q=sg.o+j) (hj:j+n≤sg.cs.length) (hd:o.dst=none) (hc:spl sg.cs j vs=kd):oL P K ρ l r o (fun ρ' l'=>ρ'=ρ∧l'=setS i ⟨sg.b,sg.o,kd,sg.sh⟩ l):=by
  intro a w ha nx Q px;obtain⟨w',hr,hA⟩:=iP (P:=P) vs 0 j l w sg i sg.b q ha hs rfl Om Om (fun u hu=>List.all_eq_true.1 hv u hu);unfold Oper.wp;have e:(execOp a.eval o).run P w=.ok .skip w':=by
    simp[execOp,ho,bU ha.fr hx,bU ha.fr hy,Instr.storeAt,Instr.sureAddr,storeVar,du hP,Value.cells,hn,hr]
  rw[e];simp only[Oper.upon,hd,Act.put];exact px _ _ ⟨ρ,_,⟨rfl,rfl⟩,by rw[←hc];exact hA⟩
theorem rB {q':Nat} (ho:o.op=.slice t x (some y) none none) (hx:ev ρ x=some (.slice (some ⟨b,q,none⟩) len cap)) (hy:ev ρ y=some (.int k (lo:Nat))) (hP:cy P t=some sz) (h:lo≤len∧lo<cap) (hq:q+lo*sz=q'):bB P ρ o (.slice (some ⟨b,q',none⟩) (len-lo) (cap-lo)):=by
  subst hq;intro ac ha w;unfold cy at hP;cases hu:P.underlying t with
  |none=>simp[hu] at hP
  |some D=>
    cases D<;>simp[hu] at hP;simp[execOp,ho,bU ha hx,bU ha hy,Instr.sliceAt,br hu,Instr.slice,Instr.sliceBounds,Instr.sliceBound,asIntOf,du hP,h.1,dK,show¬cap=lo by omega]
theorem dc (ho:o.op=.slice t x none (some y) none) (hx:ev ρ x=some (.slice (some ⟨b,q,none⟩) len cap)) (hy:ev ρ y=some (.int k (hi:Nat))) (hP:cy P t=some sz) (h:hi≤cap):bB P ρ o (.slice (some ⟨b,q,none⟩) hi cap):=fun ac ha w=>by
  unfold cy at hP;cases hu:P.underlying t with
  |none=>simp[hu] at hP
  |some D=>
    cases D<;>simp[hu] at hP;simp[execOp,ho,bU ha hx,bU ha hy,Instr.sliceAt,br hu,Instr.slice,Instr.sliceBounds,Instr.sliceBound,asIntOf,du hP,h,dK]
theorem xH {q':Nat} (ho:o.op=.slice t x (some y) (some z) none) (hx:ev ρ x=some (.slice (some ⟨b,q,none⟩) len cap)) (hy:ev ρ y=some (.int k (lo:Nat))) (hz:ev ρ z=some (.int k' (hi:Nat))) (hP:cy P t=some sz) (h:lo≤hi∧hi≤cap∧lo<cap) (hq:q+lo*sz=q'):bB P ρ o (.slice (some ⟨b,q',none⟩) (hi-lo) (cap-lo)):=by
  subst hq;intro ac ha w;unfold cy at hP;cases hu:P.underlying t with
  |none=>simp[hu] at hP
  |some D=>
    cases D<;>simp[hu] at hP;simp[execOp,ho,bU ha hx,bU ha hy,bU ha hz,Instr.sliceAt,br hu,Instr.slice,Instr.sliceBounds,Instr.sliceBound,asIntOf,du hP,h.1,h.2.1,dK,show¬cap=lo by omega]
theorem nY (ho:o.op=.slice t x none none none) (hx:ev ρ x=some (.pointer (some ⟨b,q,none⟩))) (hP:ew P t=some (n,sz)):bB P ρ o (.slice (some ⟨b,q,none⟩) n n):=fun ac ha w=>by
  unfold ew at hP;cases hu:P.underlying t with
  |none=>simp[hu] at hP
  |some D=>
    cases D<;>simp[hu] at hP;obtain⟨h1,rfl⟩:=hP;simp[execOp,ho,bU ha hx,Instr.sliceAt,br hu,Instr.sliceBounds,Instr.sureAddr,du h1,dK]
theorem iJ (ho:o.op=.slice t x none (some y) none) (hx:ev ρ x=some (.pointer (some ⟨b,q,none⟩))) (hy:ev ρ y=some (.int k (hi:Nat))) (hP:ew P t=some (n,sz)) (h:hi≤n):bB P ρ o (.slice (some ⟨b,q,none⟩) hi n):=fun ac ha w=>by
  unfold ew at hP;cases hu:P.underlying t with
  |none=>simp[hu] at hP
  |some D=>
    cases D<;>simp[hu] at hP;obtain⟨h1,rfl⟩:=hP;simp[execOp,ho,bU ha hx,bU ha hy,Instr.sliceAt,br hu,Instr.sliceBounds,Instr.sliceBound,asIntOf,Instr.sureAddr,du h1,dK,h]
theorem At.alloc {a:Act} {w:World} (h:At K ρ l r a w) (cs:Array Value) (T:TypeId):At K ρ (⟨w.heap.size,0,cs.toList,some (T,cs.size)⟩::l) r a (w.alloc (.cells cs T)):=by
  have hk:gH [] w (w.alloc (.cells cs T)):=gH.alloc [] w _;have VF:(⟨w.heap.size,0,cs.toList,some (T,cs.size)⟩:aU).pE (w.alloc (.cells cs T)):=by
    refine⟨fun j v hj=>?_,fun j hj=>?_,fun x hx=>?_⟩
    · show World.cell? _ ⟨w.heap.size,0+j,none⟩=_;rw[Nat.zero_add,World.cell?_alloc_new];simpa using hj
    · show World.frozen? _ ⟨w.heap.size,0+j,none⟩=_;rw[World.frozen?_alloc_new]
    · have hx':some (T,cs.size)=some x:=hx;rw[←hx'];show(match (w.heap.push (.cells cs T))[w.heap.size]? with|some (.cells c elem _)=>some (elem,c.size)|_=>none)=_;rw[Array.getElem?_push,if_pos rfl]
  have wv:∀s:aU,s.pE w→∀b j:Nat,s.has b j→¬(⟨w.heap.size,0,cs.toList,some (T,cs.size)⟩:aU).has b j:=fun s hs b j h1 h2=>by
    have:=hs.lt h1;have:=h2.1;simp at this;omega
  refine⟨h.size,h.defers,h.fr,h.keeps.trans' hk Oi,⟨?_,fun s hs=>(h.st.hr s hs).Jt hk Oi,?_,?_⟩,?_⟩
  · intro s hs;rcases List.mem_cons.1 hs with h'|h'
    · subst h';exact VF
    · exact(h.st.hl s h').Jt hk Oi
  · exact List.Pairwise.cons (fun s hs b j h1 h2=>wv s (h.st.hl s hs) b j h2 h1) h.st.pw
  · intro s hs t ht;rcases List.mem_cons.1 hs with h'|h'
    · subst h';exact fun b j h1 h2=>wv t (h.st.hr t ht) b j h2 h1
    · exact h.st.lr s h' t ht
  · intro s hs b j hh;rcases List.mem_cons.1 hs with h'|h'
    · subst h';right;have:=hh.1;simp at this;have:=h.keeps.size;omega
    · exact h.own s h' b j hh
def Cx:Value→List Value
  | .agg cs=>cs.toList
  |v=>[v]
theorem vM (v:Value):v.cells.toList=Cx v:=by cases v<;>rfl
theorem kM {d:Nat} {cs:List Value} (ho:o.op=.box t x) (hx:ev ρ x=some v) (hc:Cx v=cs) (hd:o.dst=some d) (hn:Nat.blt d K.n=true):
    oL P K ρ l r o (fun ρ' l'=>∃b,ρ'=(d,.pointer (some ⟨b,0,none⟩))::ρ∧l'=⟨b,0,cs,some (t,cs.length)⟩::l):=by
  intro a w ha nx Q px;unfold Oper.wp;have e:(execOp a.eval o).run P w=.ok (.value (.pointer (some ⟨w.heap.size,0,none⟩))) (w.alloc (.cells v.cells t)):=by
    simp[execOp,ho,bU ha.fr hx,Instr.box,newVar,newRow]
  rw[e];simp only[Oper.upon,hd];refine px _ _ ⟨_,_,⟨w.heap.size,rfl,rfl⟩,?_⟩;have h1:=(ha.alloc v.cells t).put hn (.pointer (some ⟨w.heap.size,0,none⟩));rw[vM,hc] at h1;have:v.cells.size=cs.length:=by rw[←hc, ←vM];simp
  rw[this] at h1;exact h1
theorem HY {e:Nat} {ty:TypeId} {p:Option Addr} (hu:P.underlying ty=some (.pointer e)) (w:World) (d:Nat):(Op.equalIn (d+1) ty (.pointer p) (.pointer none)).run P w=.ok p.isNone w:=by
  cases p<;>simp[Op.equalIn,br hu]
theorem HZ {ms:Array (String × TypeId)} {ty:TypeId} (hu:P.underlying ty=some (.interface ms)) (w:World) (d:Nat):(Op.equalIn (d+1) ty .nilIface .nilIface).run P w=.ok true w:=by
  simp[Op.equalIn,br hu]
theorem H0 {ms:Array (String × TypeId)} {ty T:TypeId} {u:Value} (hu:P.underlying ty=some (.interface ms)) (w:World) (d:Nat):(Op.equalIn (d+1) ty (.iface T u) .nilIface).run P w=.ok false w:=by
  simp[Op.equalIn,br hu]
theorem Kn {e:Nat} {ty:TypeId} {p:Option Addr} (hu:P.underlying ty=some (.pointer e)) (w:World):(Op.equal ty (.pointer p) (.pointer none)).run P w=.ok p.isNone w:=HY hu w 9999
theorem Ko {ms:Array (String × TypeId)} {ty:TypeId} (hu:P.underlying ty=some (.interface ms)) (w:World):(Op.equal ty .nilIface .nilIface).run P w=.ok true w:=HZ hu w 9999
theorem Kp {ms:Array (String × TypeId)} {ty T:TypeId} {u:Value} (hu:P.underlying ty=some (.interface ms)) (w:World):(Op.equal ty (.iface T u) .nilIface).run P w=.ok false w:=H0 hu w 9999
theorem qK {bo:BinOp} {u c:Value} {bb:Bool} {ty cT:TypeId} (hb:bo=.eql∨bo=.neq) (ho:o.op=.binOp bo ty x (.const c) cT) (hx:ev ρ x=some u) (hc:(∃p,u=.pointer p∧c=.pointer none)∨(c=.nilIface∧(u=.nilIface∨∃T q,u=.iface T q))) (h:∀w,(Op.equal ty u c).run P w=.ok bb w):bB P ρ o (.bool (if bo=.eql then bb else !bb)):=fun ac ha w=>by
  have hg:(eqGuard bo ty x (.const c) u c).run P w=.ok () w:=by
    unfold eqGuard;rcases hb with rfl|rfl<;>rcases hc with ⟨p,rfl,rfl⟩|⟨rfl,rfl|⟨T,q,rfl⟩⟩<;>simp
  have hr:(binOp bo ty u c).run P w=.ok (.bool (if bo=.eql then bb else !bb)) w:=by
    rcases hb with rfl|rfl<;>rcases hc with ⟨p,rfl,rfl⟩|⟨rfl,rfl|⟨T,q,rfl⟩⟩<;>simp[binOp,h]
  have alI:ac.eval (.const c)=c:=rfl;simp only[execOp,ho,bU ha hx,alI,Sem.run_bind,hg,hr,Result.andThen_ok,Sem.run_pure]
theorem si {p:Addr} {e:Nat} {ty cT:TypeId} (ho:o.op=.binOp .eql ty x (.const (.pointer none)) cT) (hx:ev ρ x=some (.pointer (some p))) (hu:P.underlying ty=some (.pointer e)):bB P ρ o (.bool false):=qK (.inl rfl) ho hx (.inl ⟨_,rfl,rfl⟩) (Kn hu)
theorem pV {e:Nat} {ty cT:TypeId} (ho:o.op=.binOp .eql ty x (.const (.pointer none)) cT) (hx:ev ρ x=some (.pointer none)) (hu:P.underlying ty=some (.pointer e)):bB P ρ o (.bool true):=qK (.inl rfl) ho hx (.inl ⟨_,rfl,rfl⟩) (Kn hu)
theorem Ey {ms:Array (String × TypeId)} {ty cT:TypeId} (ho:o.op=.binOp .eql ty x (.const .nilIface) cT) (hx:ev ρ x=some .nilIface) (hu:P.underlying ty=some (.interface ms)):bB P ρ o (.bool true):=qK (.inl rfl) ho hx (.inr ⟨rfl,.inl rfl⟩) (Ko hu)
theorem cR {ms:Array (String × TypeId)} {ty cT:TypeId} (ho:o.op=.binOp .neq ty x (.const .nilIface) cT) (hx:ev ρ x=some .nilIface) (hu:P.underlying ty=some (.interface ms)):bB P ρ o (.bool false):=qK (.inr rfl) ho hx (.inr ⟨rfl,.inl rfl⟩) (Ko hu)
theorem zL {ms:Array (String × TypeId)} {T:TypeId} {u:Value} {ty cT:TypeId} (ho:o.op=.binOp .eql ty x (.const .nilIface) cT) (hx:ev ρ x=some (.iface T u)) (hu:P.underlying ty=some (.interface ms)):bB P ρ o (.bool false):=qK (.inl rfl) ho hx (.inr ⟨rfl,.inr ⟨_,_,rfl⟩⟩) (Kp hu)
theorem va {ms:Array (String × TypeId)} {T:TypeId} {u:Value} {ty cT:TypeId} (ho:o.op=.binOp .neq ty x (.const .nilIface) cT) (hx:ev ρ x=some (.iface T u)) (hu:P.underlying ty=some (.interface ms)):bB P ρ o (.bool true):=qK (.inr rfl) ho hx (.inr ⟨rfl,.inr ⟨_,_,rfl⟩⟩) (Kp hu)
theorem AW {sb:ByteArray} {c:Nat} {t:Nat} (ho:o.op=.index t x y) (hx:ev ρ x=some (.string sb)) (hy:ev ρ y=some (.int k (m:Nat))) (hu:P.underlying t=some .string) (h:sb[m]?.map UInt8.toNat=some c):bB P ρ o (.int .u8 ((c:Nat):Int)):=fun ac ha w=>by
  cases hs:sb[m]? with
  |none=>rw[hs] at h;simp at h
  |some b=>
    rw[hs] at h;simp at h;simp[execOp,ho,bU ha hx,bU ha hy,Instr.index,asIntOf,br hu,hs,h]
theorem nc {a:Call} {ac:Act} (ha:tq ρ ac) {vs:List Value} (h:evs ρ a.args.toList=some vs):a.args.map ac.eval=vs.toArray:=by
  apply Array.toList_inj.1;simpa using pT ha _ _ h
theorem ady {p:Option Addr} {a:Call} (ho:o.op=.call a) (hc:a.callee=.builtin .len) (hx:evs ρ a.args.toList=some [.slice p len cap]) (ht:a.argTypes= #[t]) (hu:P.underlying t=some (.slice s)):bB P ρ o (.int .i64 ((len:Nat):Int)):=fun ac VG w=>by
  simp[execOp,ho,resolve,hc,nc VG hx,invoke,builtin,Builtin.len_,ht,br hu,goInt]
theorem jm {p:Option Addr} {a:Call} (ho:o.op=.call a) (hc:a.callee=.builtin .cap) (hx:evs ρ a.args.toList=some [.slice p len cap]) (ht:a.argTypes= #[t]) (hu:P.underlying t=some (.slice s)):bB P ρ o (.int .i64 ((cap:Nat):Int)):=fun ac VG w=>by
  simp[execOp,ho,resolve,hc,nc VG hx,invoke,builtin,Builtin.cap_,ht,br hu,goInt]
end
section
variable {P:Program} {K:Kx} {Q:Exit→Act→World→Prop} {ρ:ba} {l r:List aU} {o:Oper} {v:Value} {x y z:Operand} {t s f sz n m c lo hi len cap b q j d:Nat} {k k':IntKind}
theorem At.nf {a:Act} {w:World} {s:aU} (h:At K ρ (s::l) r a w):At K ρ (⟨s.b,s.o,s.cs,none⟩::l) r a w:=by
  refine⟨h.size,h.defers,h.fr,h.keeps,⟨?_,h.st.hr,?_,?_⟩,?_⟩
  · intro u hu;rcases List.mem_cons.1 hu with h'|h'
    · subst h';have:=h.st.hl s List.mem_cons_self;exact⟨this.1,this.2.1,fun x hx=>by cases hx⟩
    · exact h.st.hl u (List.mem_cons_of_mem _ h')
  · have:=List.pairwise_cons.1 h.st.pw;exact List.Pairwise.cons (fun u hu=>this.1 u hu) this.2
  · intro u hu t ht;rcases List.mem_cons.1 hu with h'|h'
    · subst h';exact h.st.lr s List.mem_cons_self t ht
    · exact h.st.lr u (List.mem_cons_of_mem _ h') t ht
  · intro u hu b j hh;rcases List.mem_cons.1 hu with h'|h'
    · subst h';exact h.own s List.mem_cons_self b j hh
    · exact h.own u (List.mem_cons_of_mem _ h') b j hh
theorem vb:∀(i:Nat) (s t:aU) (l:List aU),nthS i l=some t→(s::l).Perm (setS i s l++[t])
  |_,_,_,[],h=>by simp[nthS] at h
  |0,s,t,u::l,h=>by
    simp[nthS] at h;subst h;simp only[setS,List.cons_append];exact(List.perm_append_comm (l₁:=[u]) (l₂:=l)).cons s
  |n+1,s,t,u::l,h=>by
    simp only[nthS,setS] at h ⊢;exact(List.Perm.swap u s l).trans ((vb n s t l h).cons u)
theorem At.VH {a:Act} {w:World} {s t:aU} {i:Nat} (h:At K ρ (s::l) r a w) (hi:nthS i l=some t):At K ρ (setS i s l) r a w:=(h.perm (vb i s t l hi)).left
theorem At.empty {a:Act} {w:World} (h:At K ρ l r a w) (b o:Nat):At K ρ (⟨b,o,[],none⟩::l) r a w:=by
  have no:∀b' j:Nat,¬(⟨b,o,[],none⟩:aU).has b' j:=fun b' j hh=>by have:=hh.2;simp at this;omega
  refine⟨h.size,h.defers,h.fr,h.keeps,⟨?_,h.st.hr,?_,?_⟩,?_⟩
  · intro u hu;rcases List.mem_cons.1 hu with h'|h'
    · subst h';exact⟨fun j v hj=>by simp at hj,fun j hj=>by simp at hj,fun x hx=>by cases hx⟩
    · exact h.st.hl u h'
  · exact List.Pairwise.cons (fun u hu b j h1 _=>no b j h1) h.st.pw
  · intro u hu t ht;rcases List.mem_cons.1 hu with h'|h'
    · subst h';exact fun b j h1 _=>no b j h1
    · exact h.st.lr u h' t ht
  · intro u hu b j hh;rcases List.mem_cons.1 hu with h'|h'
    · subst h';exact(no b j hh).elim
    · exact h.own u h' b j hh
theorem GQ.tA {e:Exit} (h:GQ K Q e ρ (⟨0,0,[],none⟩::l) r):GQ K Q e ρ l r:=fun a w ha=>h a w (ha.empty 0 0)
theorem alJ {cs:List Value} (ho:o.op=.alloc t) (hz:gk P t=some cs) (hd:o.dst=some d) (hn:Nat.blt d K.n=true):
    oL P K ρ l r o (fun ρ' l'=>∃b,ρ'=(d,.pointer (some ⟨b,0,none⟩))::ρ∧l'=⟨b,0,cs,none⟩::l):=by
  intro a w ha nx Q px;unfold gk at hz;cases hi:P.info? t with
  |none=>simp[hi] at hz
  |some i=>
    cases vc:i.zero with
    |none=>simp[hi,vc] at hz
    |some zv=>
      simp[hi,vc] at hz;unfold Oper.wp;have e:(execOp a.eval o).run P w=.ok (.value (.pointer (some ⟨w.heap.size,0,none⟩))) (w.alloc (.cells zv.cells t)):=by
        simp[execOp,ho,Instr.alloc,zeroValue,ly hi,vc,newVar,newRow]
      rw[e];simp only[Oper.upon,hd];refine px _ _ ⟨_,_,⟨w.heap.size,rfl,rfl⟩,?_⟩;have h1:=((ha.alloc zv.cells t).nf).put hn (.pointer (some ⟨w.heap.size,0,none⟩));rw[hz] at h1;exact h1
def gM (P:Program) (t:Nat):Option (Nat × List Value × Nat × Nat):=
  match P.underlying t with
  |some (.slice e)=>(P.info? e).bind fun i=>i.zero.map fun z=>(e,z.cells.toList,i.size,i.bytes)
  |_=>none
theorem jc {e qL:Nat} {zs:List Value} (h:gM P t=some (e,zs,sz,qL)):∃i z,P.underlying t=some (.slice e)∧P.info? e=some i∧i.zero=some z∧z.cells.toList=zs∧i.size=sz∧i.bytes=qL:=by
  unfold gM at h;cases hu:P.underlying t with
  |none=>simp[hu] at h
  |some D=>
    cases D<;>simp[hu] at h;rename_i e';cases hi:P.info? e' with
    |none=>simp[hi] at h
    |some i=>
      cases hz:i.zero with
      |none=>simp[hi,hz] at h
      |some z=>
        simp[hi,hz] at h;obtain⟨rfl,h2,h3,h4⟩:=h;exact⟨i,z,rfl,hi,hz,h2,h3,h4⟩
theorem zM (zs:List Value) (hz:0<zs.length):∀c,(List.range (c*zs.length)).map (fun i=>zs.toArray[i%zs.toArray.size]!)=(List.replicate c zs).flatten
  |0=>by simp
  |c+1=>by
    rw[Nat.add_mul,Nat.one_mul,List.range_add,List.map_append,zM zs hz c,List.replicate_succ',List.flatten_append];congr 1;simp only[List.map_map,List.flatten_cons,List.flatten_nil,List.append_nil];apply List.ext_getElem
    · simp
    · intro i h1 h2;simp at h1;simp[Nat.mod_eq_of_lt h1,h1,getElem!_pos]
theorem xI {zv:Value} {zs:List Value} (h:zv.cells.toList=zs) (hz:zs.length=sz) (h0:0<sz) (c:Nat):(madeCells zv.cells (c*sz)).toList=(List.replicate c zs).flatten:=by
  subst hz;have:zv.cells=zs.toArray:=by apply Array.toList_inj.1;simpa using h
  rw[this];simp only[madeCells,Array.toList_map,Array.toList_range];exact zM zs h0 c
theorem Cy {kl kc:IntKind} {e qL:Nat} {zs:List Value} (ho:o.op=.makeSlice t x y) (hx:ev ρ x=some (.int kl ((m:Nat):Int))) (hy:ev ρ y=some (.int kc ((c:Nat):Int))) (hP:gM P t=some (e,zs,sz,qL)) (hz:zs.length=sz) (h0:0<sz) (h:m≤c∧qL*c≤281474976710656∧c≤9223372036854775807) (hd:o.dst=some d) (hn:Nat.blt d K.n=true):
    oL P K ρ l r o (fun ρ' l'=>∃b,ρ'=(d,.slice (some ⟨b,0,none⟩) m c)::ρ∧l'=⟨b,0,(List.replicate c zs).flatten,none⟩::l):=by
  intro a w ha nx Q px;obtain⟨i,zv,hu,hi,vc,pK,wT,TG⟩:=jc hP;unfold Oper.wp;have hb:(i.bytes:Int)*((c:Nat):Int)≤281474976710656:=by
    have:((i.bytes*c:Nat):Int)≤281474976710656:=by rw[TG];omega
    rwa [Int.natCast_mul] at this
  have hr:=run_make (P:=P) w t e i zv hu hi vc kl kc m c Om Om hb Om;simp only[Int.toNat_natCast,wT] at hr;have he:(execOp a.eval o).run P w=.ok (.value (.slice (some ⟨w.heap.size,0,none⟩) m c)) (w.alloc (.cells (madeCells zv.cells (c*sz)) e)):=by
    simp[execOp,ho,bU ha.fr hx,bU ha.fr hy,hr]
  rw[he];simp only[Oper.upon,hd];refine px _ _ ⟨_,_,⟨w.heap.size,rfl,rfl⟩,?_⟩;have h1:=((ha.alloc (madeCells zv.cells (c*sz)) e).nf).put hn (.slice (some ⟨w.heap.size,0,none⟩) m c);rw[xI pK hz h0] at h1;exact h1
theorem alK {kl kc:IntKind} {e qL:Nat} {z:Value} (ho:o.op=.makeSlice t x y) (hx:ev ρ x=some (.int kl ((m:Nat):Int))) (hy:ev ρ y=some (.int kc ((c:Nat):Int))) (hP:gM P t=some (e,[z],1,qL)) (h:m≤c∧qL*c≤281474976710656∧c≤9223372036854775807) (hd:o.dst=some d) (hn:Nat.blt d K.n=true):
    oL P K ρ l r o (fun ρ' l'=>∃b,ρ'=(d,.slice (some ⟨b,0,none⟩) m c)::ρ∧l'=⟨b,0,List.replicate c z,none⟩::l):=by
  have:=Cy (K:=K) (l:=l) (r:=r) ho hx hy hP rfl Om h hd hn;have e:(List.replicate c [z]).flatten=List.replicate c z:=by
    induction c with
    |zero=>rfl
    |succ n ih=>simp[List.replicate_succ]
  rwa [e] at this
structure GS (q:Option Addr) (b o:Nat) (cs:List Value) (sz cap:Nat):Prop where
  len:cs.length=cap*sz
  ad:q=some ⟨b,o,none⟩∨(q=none∧cap=0)
theorem GS.bD {q:Option Addr} {b o:Nat} {cs:List Value} (h:GS q b o cs sz cap) (hc:0<cap):q=some ⟨b,o,none⟩:=by
  rcases h.ad with h'|⟨_,h'⟩
  · exact h'
  · omega
def Src (l r:List aU) (q:Option Addr) (news:List Value):Prop:=news=[]∨∃sg ∈ l++r,∃j,q=some ⟨sg.b,sg.o+j,none⟩∧(sg.cs.drop j).take news.length=news
theorem Src.eZ {sg:aU} {q2:Option Addr} {news:List Value} (i j:Nat) (hs:nthS i l=some sg) (hq:q2=some ⟨sg.b,sg.o+j,none⟩) (hv:(sg.cs.drop j).take news.length=news):Src l r q2 news:=
  .inr ⟨sg,List.mem_append_left _ (ed _ _ _ hs),j,hq,hv⟩
theorem Src.cells {q:Option Addr} {news:List Value} {a:Act} {w:World} (h:Src l r q news) (ha:At K ρ l r a w):news=[]∨∃ad,q=some ad∧∀j u,news[j]? =some u→w.cell? (ad.add j)=some u:=by
  rcases h with h|⟨sg,hm,j,hq,hv⟩
  · exact .inl h
  · refine .inr ⟨_,hq,fun i u hu=>?_⟩;have ks:sg.pE w:=by
      rcases List.mem_append.1 hm with h|h
      · exact ha.st.hl sg h
      · exact ha.st.hr sg h
    have hi:i<news.length:=(List.getElem?_eq_some_iff.1 hu).1;have hc:sg.cs[j+i]? =some u:=by
      rw[←hv,List.getElem?_take,if_pos hi,List.getElem?_drop] at hu;exact hu
    rw[dK,Nat.add_assoc];exact ks.1 _ _ hc
theorem xJ:∀(vs cs:List Value) (j:Nat),j+vs.length≤cs.length→spl cs j vs=cs.take j++vs++cs.drop (j+vs.length)
  |[],cs,j,h=>by simp[spl]
  |v::vs,cs,j,h=>by
    simp only[List.length_cons] at h;simp only[spl,List.length_cons];rw[xJ vs (cs.set j v) (j+1) Oz];rw[List.drop_set,if_pos Om,List.take_set];have e1:(cs.take (j+1)).set j v=cs.take j++[v]:=by
      rw[List.take_succ_eq_append_getElem Om,List.set_append_right _ _ Oz];have:j-(List.take j cs).length=0:=by simp;omega
      rw[this];rfl
    rw[e1,show j+1+vs.length=j+(vs.length+1) by omega];simp
theorem Cz (vs cs:List Value) (j:Nat) (h:j+vs.length≤cs.length):(spl cs j vs).take (j+vs.length)=cs.take j++vs:=by
  rw[xJ vs cs j h,List.take_append_of_le_length Oz,List.take_of_length_le Oz]
theorem jP:∀(i:Nat) (s t:aU) (l:List aU),nthS i l=some t→(setS i s l).Perm (s::l.eraseIdx i)
  |_,_,_,[],h=>by simp[nthS] at h
  |0,s,t,u::l,h=>by simp[setS]
  |i+1,s,t,u::l,h=>by
    simp only[setS,List.eraseIdx_cons_succ];exact((jP i s t l (by simpa [nthS] using h)).cons u).trans (.swap _ _ _)
theorem adz {ca:Call} {q q2:Option Addr} {b o' c2 e qL:Nat} {cs zs news:List Value} {sh:Option (TypeId × Nat)} (i:Nat) (ho:o.op=.call ca) (hc:ca.callee=.builtin .append) (jZ:evs ρ ca.args.toList=some [.slice q n cap,.slice q2 m c2]) (yY:ca.argTypes= #[t,t]) (hP:gM P t=some (e,zs,sz,qL)) (hz:zs.length=sz)
    (hs:nthS i l=some ⟨b,o',cs,sh⟩) (hg:GS q b o' cs sz cap) (vd:Src l r q2 news) (hn:n≤cap∧0<sz∧(n+m)*qL≤140737488355328∧n+m≤9223372036854775807) (hlen:news.length=m*sz) (h1:(news.all fun u=>u.oneCell')=true) (hd:o.dst=some d) (wo:Nat.blt d K.n=true):
    oL P K ρ l r o (fun ρ' l'=>∃q' b' o' kd ig,GS q' b' o' kd sz ig∧n+m≤ig∧kd.take ((n+m)*sz)=cs.take (n*sz)++news∧ρ'=(d,.slice q' (n+m) ig)::ρ∧l'=setS i ⟨b',o',kd,none⟩ l):=by
  intro a w ha nx Q px;obtain⟨AX,h0,TG,h63⟩:=hn;obtain⟨i',zv,hu,hi,vc,pK,wT,AY⟩:=jc hP;have ve:∀w,(sizeOf e).run P w=.ok sz w:=du (by simp[cY,hi,wT]);have kS:=nc ha.fr jZ;have VI:∀u ∈ news,u.oneCell'=true:=fun u hu=>List.all_eq_true.1 h1 u hu
  have lU:∀(u:Value) (w':World),(Builtin.append_ #[t,t] o.type #[.slice q n cap,.slice q2 m c2]).run P w=.ok u w'→(execOp a.eval o).run P w=.ok (.value u) w':=fun u w' h=>by
    simp[execOp,ho,resolve,hc,kS,invoke,builtin,yY,h]
  have zN:zv.cells.size=sz:=by rw[←hz, ←pK];simp
  have Q7:cs.length=cap*sz:=hg.len;unfold Oper.wp;by_cases kt:n+m≤cap
  · -- within the room
    have hle:(n+m)*sz≤cap*sz:=Nat.mul_le_mul_right _ kt;rw[Nat.add_mul] at hle;have fin:∀(w':World) (q':Option Addr),At K ρ (setS i ⟨b,o',spl cs (n*sz) news,none⟩ l) r a w'→q'=q→
        nx (a.put (some d) (.slice q' (n+m) cap)) w':=fun w' q' hA hq'=>by
      subst hq';refine px _ _ ⟨_,_,⟨q',b,o',spl cs (n*sz) news,cap,⟨by rw[mA];exact Q7,hg.ad⟩,kt,?_,rfl,rfl⟩,hA.put wo _⟩;rw[Nat.add_mul, ←hlen];exact Cz _ _ _ Om
    have Ez:∀w',At K ρ (setS i ⟨b,o',spl cs (n*sz) news,sh⟩ l) r a w'→At K ρ (setS i ⟨b,o',spl cs (n*sz) news,none⟩ l) r a w':=fun w' hA=>by
      exact((hA.perm (jP i _ _ l hs)).nf).perm (jP i _ _ l hs).symm
    rcases vd.cells ha with AZ|⟨ad,Q8,lK⟩
    · -- nothing is appended
      subst AZ;have hm:m=0:=by
        rcases Nat.mul_eq_zero.1 (show m*sz=0 by simpa using hlen.symm) with h|h
        · exact h
        · omega
      subst hm;have EA:(Builtin.firstCells sz 0 (.slice q2 0 c2)).run P w=.ok #[] w:=by
        cases q2<;>simp[Builtin.firstCells,loadCells,loadCellsFrom]
      have hr:(Builtin.append_ #[t,t] o.type #[.slice q n cap,.slice q2 0 c2]).run P w=.ok (.slice q (n+0) cap) w:=by
        cases q<;>simp[Builtin.append_,br hu,ve,Builtin.lenOf,kt,AX,EA,storeCells]
      rw[lU _ _ hr];simp only[Oper.upon,hd];refine fin w q (Ez w ?_) rfl;have:(⟨b,o',spl cs (n*sz) [],sh⟩:aU)=⟨b,o',cs,sh⟩:=rfl;rw[this,jb i _ l hs];exact ha
    · by_cases wC:m=0
      · subst wC;simp at hlen;subst hlen;have EA:(Builtin.firstCells sz 0 (.slice q2 0 c2)).run P w=.ok #[] w:=by
          cases q2<;>simp[Builtin.firstCells,loadCells,loadCellsFrom]
        have hr:(Builtin.append_ #[t,t] o.type #[.slice q n cap,.slice q2 0 c2]).run P w=.ok (.slice q (n+0) cap) w:=by
          cases q<;>simp[Builtin.append_,br hu,ve,Builtin.lenOf,kt,AX,EA,storeCells]
        rw[lU _ _ hr];simp only[Oper.upon,hd];refine fin w q (Ez w ?_) rfl;have:(⟨b,o',spl cs (n*sz) [],sh⟩:aU)=⟨b,o',cs,sh⟩:=rfl;rw[this,jb i _ l hs];exact ha
      · have hq:q=some ⟨b,o',none⟩:=hg.bD Om;subst hq;subst Q8;have EA:=run_firstCells_some (P:=P) w sz m ad m c2 news hlen lK;obtain⟨w',TH,hA⟩:=iP (P:=P) news 0 (n*sz) l w ⟨b,o',cs,sh⟩ i b (o'+n*sz) ha hs rfl Oi Oz VI;have hr:(Builtin.append_ #[t,t] o.type #[.slice (some ⟨b,o',none⟩) n cap,.slice (some ad) m c2]).run P w=.ok (.slice (some ⟨b,o',none⟩) (n+m) cap) w':=by
          simp[Builtin.append_,br hu,ve,Builtin.lenOf,kt,EA,dK,TH]
        rw[lU _ _ hr];simp only[Oper.upon,hd];exact fin w' _ (Ez w' hA) rfl
  · -- it grows
    have wC:0<m:=Om;have Kq:news≠[]:=by
      intro e;subst e;rcases Nat.mul_eq_zero.1 (show m*sz=0 by simpa using hlen.symm) with h|h<;>omega
    rcases vd.cells ha with AZ|⟨ad,Q8,lK⟩
    · exact(Kq AZ).elim
    subst Q8;have Kr:Builtin.nextslicecap (n+m) cap*i'.bytes≤281474976710656:=growslice_fits Om (by rw[AY];exact TG);have fin:∀(C:Nat) (sk rest:List Value),n+m≤C→sk=cs.take (n*sz)→rest.length=(C-(n+m))*sz→
        nx (a.put (some d) (.slice (some ⟨w.heap.size,0,none⟩) (n+m) C)) (w.drew.alloc (.cells (sk.toArray++news.toArray++rest.toArray) e)):=fun C sk rest hC VJ hr=>by
      have hA:=((ha.drew.alloc (sk.toArray++news.toArray++rest.toArray) e).nf).VH hs;have TI:sk.length=n*sz:=by
        have:n*sz≤cap*sz:=Nat.mul_le_mul_right _ AX;rw[VJ,List.length_take];omega
      have hCC:C*sz=(n+m)*sz+(C-(n+m))*sz:=by rw[←Nat.add_mul];congr 1;omega
      refine px _ _ ⟨_,_,⟨some ⟨w.heap.size,0,none⟩,w.heap.size,0,(sk.toArray++news.toArray++rest.toArray).toList,C,⟨?_,.inl rfl⟩,hC,?_,rfl,rfl⟩,hA.put wo _⟩
      · simp only[Array.toList_append,List.length_append,TI,hlen,hr,hCC];rw[Nat.add_mul]
      · have h2:(n+m)*sz=(sk++news).length:=by simp[TI,hlen,Nat.add_mul]
        simp only[Array.toList_append];rw[h2,List.take_left',VJ]
        · simp[VJ]
    have wq:=grownCap_ge w (n+m) cap e;have A0:∀N,(Builtin.zeroCells zv.cells N).toList.length=N*sz:=fun N=>by simp[Builtin.zeroCells,zN]
    rcases hg.ad with hq|⟨hq,CA⟩
    · subst hq;have vI:∀j u,(cs.take (n*sz))[j]? =some u→w.cell? ((⟨b,o',none⟩:Addr).add j)=some u:=fun j u hj=>by
        rw[dK];have ks:=ha.st.hl _ (ed _ _ _ hs);rw[List.getElem?_take] at hj;split at hj
        · exact ks.1 _ _ hj
        · cases hj
      have hr:=run_append_grow (P:=P) w t o.type e i' zv hu hi vc ⟨b,o',none⟩ n cap (cs.take (n*sz)) (by
        have:n*sz≤cap*sz:=Nat.mul_le_mul_right _ AX;rw[List.length_take,wT];omega) vI ad m c2 news (by rw[wT];exact hlen) lK Om Om Kr
      rw[lU _ _ hr];simp only[Oper.upon,hd];have:=fin (grownCap w (n+m) cap e) _ (Builtin.zeroCells zv.cells (grownCap w (n+m) cap e-(n+m))).toList wq rfl (A0 _);simpa using this
    · subst hq;subst CA;obtain rfl:n=0:=Om;have hr:=run_append_nil (P:=P) w t o.type e i' zv hu hi vc ad m c2 news (by rw[wT];exact hlen) lK Om Om (by
        rw[AY];rw[Nat.zero_add] at TG;omega)
      rw[lU _ _ hr];simp only[Oper.upon,hd];have:=fin (grownCap w m 0 e) [] (Builtin.zeroCells zv.cells (grownCap w m 0 e-m)).toList (by simpa using wq) Oi (by simpa using A0 _);simpa using this
theorem Q9 {T:TypeId} {D:TypeDesc} (ho:o.op=.makeInterface T x) (hx:ev ρ x=some v) (hu:P.underlying T=some D) (hD:(match D with| .interface _=>true|_=>false)=false):bB P ρ o (.iface T v):=fun ac ha w=>by
  have:(Instr.makeInterface T v).run P w=.ok (.iface T v) w:=by
    cases D<;>simp at hD<;>simp[Instr.makeInterface,br hu]
  simp[execOp,ho,bU ha hx,this]
theorem adA {ca:Call} {X Y:Int} (ho:o.op=.call ca) (hc:ca.callee=.builtin .max) (hx:evs ρ ca.args.toList=some [.int k X,.int k' Y]):bB P ρ o (.int k (max X Y)):=fun ac VG w=>by
  have:(if X<Y then Y else X)=max X Y:=by split<;>omega
  simp[execOp,ho,resolve,hc,nc VG hx,invoke,builtin,Builtin.max_,Builtin.max2,this]
theorem TJ {ca:Call} {X Y:Int} (ho:o.op=.call ca) (hc:ca.callee=.builtin .min) (hx:evs ρ ca.args.toList=some [.int k X,.int k' Y]):bB P ρ o (.int k (min X Y)):=fun ac VG w=>by
  have:(if Y<X then Y else X)=min X Y:=by split<;>omega
  simp[execOp,ho,resolve,hc,nc VG hx,invoke,builtin,Builtin.min_,Builtin.min2,this]
end
inductive Pl where
  |nil|stop
  |st (i:Nat) (k:Bool) (rest:Pl)
  |ef (i:Nat) (rest alt:Pl)
  |er (i:Nat) (rest alt:Pl)
def Pl.alts:Pl→List Nat
  | .ef i _ a=>i::a.alts
  | .er i _ a=>i::a.alts
  |_=>[]
def memB (j:Nat):List Nat→Bool
  |[]=>false
  |i::l=>Nat.beq i j||memB j l
theorem CB {j:Nat}:∀{l:List Nat},memB j l=true→j ∈ l
  |[],h=>by simp[memB] at h
  |i::l,h=>by
    simp only[memB,Bool.or_eq_true] at h;rcases h with h|h
    · rw[Nat.eq_of_beq_eq_true h];exact List.mem_cons_self
    · exact List.mem_cons_of_mem _ (CB h)
def Pl.len:Pl→Nat
  | .nil=>0
  | .stop=>0
  | .st _ _ r=>r.len+1
  | .ef _ r a=>max (r.len+1) a.len
  | .er _ r a=>max (r.len+1) a.len
mutual
def Pl.ok (n:Nat) (b:List Nat) (E:Nat):Pl→Nat→Bool
  | .nil,d=>Nat.beq d (Nat.pow 2 n-1)
  | .stop,_=>false
  | .st i k rest,d=>Nat.blt i n && !Nat.testBit d i && pP (nthN i b) d && (!Nat.testBit E i && (!k||allFrom (fun j=>Nat.testBit d j|| !Nat.testBit E j||Nat.testBit (nthN j b) i) 0 n)) && rest.ok n b E (Nat.lor d (Nat.pow 2 i))
  | .ef i rest alt,d=>allFrom (fun j=>Nat.testBit d j||memB j (i::alt.alts)|| !pP (nthN j b) d) 0 n && (Nat.blt i n && !Nat.testBit d i && pP (nthN i b) d && Nat.testBit E i && rest.ok n b E (Nat.lor d (Nat.pow 2 i))) && alt.oks n b E d
  | .er i rest alt,d=>allFrom (fun j=>Nat.testBit d j||memB j (i::alt.alts)|| !pP (nthN j b) d) 0 n && (Nat.blt i n && !Nat.testBit d i && pP (nthN i b) d && !Nat.testBit E i && rest.ok n b E (Nat.lor d (Nat.pow 2 i))) && alt.oks n b E d
def Pl.oks (n:Nat) (b:List Nat) (E:Nat):Pl→Nat→Bool
  | .stop,_=>true
  | .ef i rest alt,d=>(Nat.blt i n && !Nat.testBit d i && pP (nthN i b) d && Nat.testBit E i && rest.ok n b E (Nat.lor d (Nat.pow 2 i))) && alt.oks n b E d
  | .er i rest alt,d=>(Nat.blt i n && !Nat.testBit d i && pP (nthN i b) d && !Nat.testBit E i && rest.ok n b E (Nat.lor d (Nat.pow 2 i))) && alt.oks n b E d
  |_,_=>false
end
def GC (L:List Oper) (E:Nat) (pl:Pl):Bool:=
  Region.noSelect L.toArray && Nat.ble pl.len L.length && backB 0 L && jx L.toArray (befs [] L) L 0 L && pl.ok L.length (befs [] L) E 0
section
variable {P:Program} {Q:Exit→Act→World→Prop}
def EB (P:Program) (ops:Array Oper) (Q:Exit→Act→World→Prop):Pl→Act→World→Prop
  | .nil,a,w=>Q .normal a w
  | .stop,_,_=>True
  | .st i false rest,a,w=>∃o v,ops[i]? =some o∧Yields P ops o v a∧EB P ops Q rest (a.put o.dst v) w
  | .st i true rest,a,w=>∃o v,ops[i]? =some o∧YieldsAt P ops w o v a∧EB P ops Q rest (a.put o.dst v) w
  | .ef i rest alt,a,w=>wpOp P ops Q i (EB P ops Q rest) a w∧EB P ops Q alt a w
  | .er i rest alt,a,w=>stOp P ops w i (fun a'=>EB P ops Q rest a' w) a∧EB P ops Q alt a w
theorem A1 {L:List Oper} {E:Nat} {Q:Exit→Act→World→Prop} {a:Act} {w:World}:∀(pl:Pl) (d:Nat) (j:Nat),pl.oks L.length (befs [] L) E d=true→j ∈ pl.alts→EB P L.toArray Q pl a w→
    ∃rest,(Nat.blt j L.length && !Nat.testBit d j && pP (nthN j (befs [] L)) d && rest.ok L.length (befs [] L) E (Nat.lor d (Nat.pow 2 j)))=true∧rest.len+1≤pl.len∧((Nat.testBit E j=true∧wpOp P L.toArray Q j (EB P L.toArray Q rest) a w)∨(Nat.testBit E j=false∧stOp P L.toArray w j (fun a'=>EB P L.toArray Q rest a' w) a))
  | .nil,d,j,h,hj,_=>by simp[Pl.oks] at h
  | .stop,d,j,h,hj,_=>by simp[Pl.alts] at hj
  | .st _ _ _,d,j,h,hj,_=>by simp[Pl.oks] at h
  | .ef i rest alt,d,j,h,hj,hw=>by
    simp only[Pl.oks] at h;rw[Bool.and_eq_true] at h;simp only[Pl.alts,List.mem_cons] at hj;by_cases e:j=i
    · subst e;have h1:=h.1;simp only[Bool.and_eq_true] at h1 ⊢;exact⟨rest,⟨⟨h1.1.1.1,h1.1.1.2⟩,h1.2⟩,by simp only[Pl.len];omega,.inl ⟨h1.1.2,hw.1⟩⟩
    · obtain⟨r,h1,h2,h3⟩:=A1 alt d j h.2 (hj.resolve_left e) hw.2;exact⟨r,h1,by simp only[Pl.len];omega,h3⟩
  | .er i rest alt,d,j,h,hj,hw=>by
    simp only[Pl.oks] at h;rw[Bool.and_eq_true] at h;simp only[Pl.alts,List.mem_cons] at hj;by_cases e:j=i
    · subst e;have h1:=h.1;simp only[Bool.and_eq_true] at h1 ⊢;exact⟨rest,⟨⟨h1.1.1.1,h1.1.1.2⟩,h1.2⟩,by simp only[Pl.len];omega,.inr ⟨by simpa using h1.1.2,hw.1⟩⟩
    · obtain⟨r,h1,h2,h3⟩:=A1 alt d j h.2 (hj.resolve_left e) hw.2;exact⟨r,h1,by simp only[Pl.len];omega,h3⟩
theorem TK {L:List Oper} {d i:Nat} {listed:Array Bool} (pt:backB 0 L=true) (wv:jx L.toArray (befs [] L) L 0 L=true) (hl:PS L d listed) (fg:i<L.length) (u0:d.testBit i=false) (nU:pP (nthN i (befs [] L)) d=true):
    i ∈ Region.ready .any L.toArray listed∧NB .any L.toArray listed i L[i] (fun j=>j=i∨(nthN j (befs [] L)).testBit i=true):=by
  have QD:L[i]? =some L[i]:=by simp[fg]
  have Ja:L.toArray[i]? =some L[i]:=by simpa using QD
  have dir:∀e ∈ L[i].after,Region.binds .any e=true→listed.getD e.on false=true:=fun e he hb=>by
    have h1:=sd L 0 pt i _ QD e he hb;rw[Nat.zero_add] at h1;have h2:=kR nU (xy QD he hb h1);have h3:=hl.at_ e.on Om;rw[h2] at h3;have:e.on<listed.size:=by rw[hl.size];omega
    simpa [this] using h3
  have nI:i ∈ Region.ready .any L.toArray listed:=mem_ready.2 ⟨by rw[hl.at_ i fg];exact u0,_,Ja,dir⟩;have Ty:L.toArray.size=L.length:=Oi;have nb:NB .any L.toArray listed i L[i] (fun j=>j=i∨(nthN j (befs [] L)).testBit i=true):=by
    refine⟨fun j hj hb=>?_,fun j oj hj hb uY=>?_,fun j oj hj tg hb=>?_⟩
    · rw[Ty] at hj;rw[hl.at_ j hj];rcases hb with rfl|hb
      · exact u0
      · cases hd:d.testBit j with
        |false=>rfl
        |true=>rw[kR (hl.closed j hj hd) hb] at u0;cases u0
    · have zC:L[j]? =some oj:=by simpa using hj
      rcases hb with rfl|hb
      · exact(uY rfl).elim
      · obtain⟨e,he,hbi,hle,VA⟩:=uZ zC hb;have:j<L.length:=by
          rcases Nat.lt_or_ge j L.length with h'|h'
          · exact h'
          · simp[List.getElem?_eq_none h'] at zC
        exact⟨e,he,hbi,VA,by rw[Ty];omega⟩
    · have zC:L[j]? =some oj:=by simpa using hj
      have PR:j<L.length:=by
        rcases Nat.lt_or_ge j L.length with h'|h'
        · exact h'
        · simp[List.getElem?_eq_none h'] at zC
      have h1:=nH L 0 wv i _ QD;rw[Nat.zero_add] at h1;have h2:=pQ L 0 h1 j oj zC;simp only[Nat.zero_add] at h2;rcases h2 with h2|h2|h2|h2
      · exact(hb (.inr h2)).elim
      · rw[hl.at_ j PR,kR nU h2] at tg;cases tg
      · exact(hb (.inl h2)).elim
      · exact h2
  exact⟨nI,nb⟩
theorem vN {L:List Oper} {E:Nat} (pt:backB 0 L=true) (wv:jx L.toArray (befs [] L) L 0 L=true) {fuel:Nat} {pl:Pl} {d i:Nat} {listed:Array Bool} {a:Act} {w:World} (hm:i ∈ pl.alts)
    (ih:∀(pl:Pl) (d:Nat) (listed:Array Bool) (a:Act) (w:World),pl.ok L.length (befs [] L) E d=true→PS L d listed→pl.len≤fuel→EB P L.toArray Q pl a w→Co P .any L.toArray (fun j=>Nat.testBit E j) Q fuel listed a w)
    (tj:allFrom (fun j=>Nat.testBit d j||memB j pl.alts|| !pP (nthN j (befs [] L)) d) 0 L.length=true) (alL:pl.oks L.length (befs [] L) E d=true) (hl:PS L d listed) (hf:pl.len≤fuel+1) (h:EB P L.toArray Q pl a w):
    Co P .any L.toArray (fun j=>Nat.testBit E j) Q (fuel+1) listed a w:=by
  have step:∀j ∈ pl.alts,j ∈ Region.ready .any L.toArray listed∧((Nat.testBit E j=true∧wpOp P L.toArray Q j (Co P .any L.toArray (fun j=>Nat.testBit E j) Q fuel (listed.setIfInBounds j true)) a w)∨(Nat.testBit E j=false∧stOp P L.toArray w j (fun a'=>Co P .any L.toArray (fun j=>Nat.testBit E j) Q fuel (listed.setIfInBounds j true) a' w) a)):=by
    intro j hj;obtain⟨rj,h1,h2,h3⟩:=A1 _ d j alL hj h;simp only[Bool.and_eq_true] at h1;obtain⟨⟨⟨Cr,wo⟩,nU⟩,hrj⟩:=h1;have fg:j<L.length:=Nat.le_of_ble_eq_true Cr;have u0:d.testBit j=false:=by simpa using wo
    obtain⟨nI,nb⟩:=TK pt wv hl fg u0 nU;refine⟨nI,?_⟩;rcases h3 with ⟨h4,h5⟩|⟨h4,h5⟩
    · exact .inl ⟨h4,wpOp_mono (fun a' w' h'=>ih rj _ _ a' w' hrj (hl.put fg nU) Om h') h5⟩
    · exact .inr ⟨h4,stOp_mono (fun a' h'=>ih rj _ _ a' w hrj (hl.put fg nU) Om h') h5⟩
  refine⟨fun h0=>?_,fun j hj=>?_⟩
  · have:=(step i hm).1;rw[h0] at this;cases this
  · have hm:j ∈ pl.alts:=by
      obtain⟨tg,oj,AO,alM⟩:=mem_ready.1 hj;have PR:j<L.length:=by simpa using (Array.getElem?_eq_some_iff.1 AO).1
      have h1:=kk _ _ tj j Om Om;rw[hl.at_ j PR] at tg;simp only[tg,Bool.false_or] at h1;rw[Bool.or_eq_true] at h1;rcases h1 with h1|h1
      · exact CB h1
      · exfalso
        -- all that j waits for is done
        have alN:L[j]? =some oj:=by simpa using AO
        have:pP (nthN j (befs [] L)) d=true:=by
          show Nat.beq (nthN j (befs [] L)&&&d) (nthN j (befs [] L))=true;have e:nthN j (befs [] L)&&&d=nthN j (befs [] L):=by
            apply Nat.eq_of_testBit_eq;intro k;rw[Nat.testBit_and];cases hk:(nthN j (befs [] L)).testBit k with
            |false=>rfl
            |true=>
              obtain⟨e,he,hb,fg,VA⟩:=uZ alN hk;have hd:=alM e he hb;have TL:d.testBit e.on=true:=by
                have h3:=hl.at_ e.on Om;have:e.on<listed.size:=by rw[hl.size];omega
                rw[←h3];simpa [this] using hd
              rcases VA with h4|h4
              · subst h4;simp[TL]
              · have:=hl.closed e.on Om TL;rw[kR this h4];rfl
          rw[e];exact Nat.beq_refl _
        rw[this] at h1;cases h1
    obtain⟨h1,h2⟩:=step j hm;rcases h2 with ⟨h2,h3⟩|⟨h2,h3⟩
    · rw[if_pos h2];exact h3
    · rw[if_neg (show¬E.testBit j=true by rw[h2];simp)];exact h3
theorem EC {L:List Oper} {E:Nat} (pO:Region.noSelect L.toArray=true) (pt:backB 0 L=true) (wv:jx L.toArray (befs [] L) L 0 L=true)
    (hQ:∀c a w (d:Nat) v,Q (.panic c) (a.put (some d) v) w→Q (.panic c) a w):
    ∀(fuel:Nat) (pl:Pl) (d:Nat) (listed:Array Bool) (a:Act) (w:World),pl.ok L.length (befs [] L) E d=true→PS L d listed→pl.len≤fuel→EB P L.toArray Q pl a w→
      Co P .any L.toArray (fun j=>Nat.testBit E j) Q fuel listed a w:=by
  intro fuel;have Ty:L.toArray.size=L.length:=Oi;induction fuel with
  |zero=>
    intro pl d listed a w hs hl hf h;cases pl with
    |nil=>
      refine xv ?_ h 0;have hd:d=2^L.length-1:=Nat.eq_of_beq_eq_true hs;apply List.eq_nil_iff_forall_not_mem.2;intro j hj;obtain⟨tg,o,ho,_⟩:=mem_ready.1 hj;have fg:j<L.length:=by simpa using (Array.getElem?_eq_some_iff.1 ho).1
      rw[hl.at_ j fg,hd,Nat.testBit_two_pow_sub_one] at tg;simp[fg] at tg
    |stop=>simp[Pl.ok] at hs
    |st i k rest=>simp[Pl.len] at hf
    |ef i rest alt=>simp only[Pl.len] at hf;omega
    |er i rest alt=>simp only[Pl.len] at hf;omega
  |succ fuel ih=>
    intro pl d listed a w hs hl hf h;cases pl with
    |nil=>
      refine xv ?_ h (fuel+1);have hd:d=2^L.length-1:=Nat.eq_of_beq_eq_true hs;apply List.eq_nil_iff_forall_not_mem.2;intro j hj;obtain⟨tg,o,ho,_⟩:=mem_ready.1 hj;have fg:j<L.length:=by simpa using (Array.getElem?_eq_some_iff.1 ho).1
      rw[hl.at_ j fg,hd,Nat.testBit_two_pow_sub_one] at tg;simp[fg] at tg
    |stop=>simp[Pl.ok] at hs
    |st i k rest=>
      simp only[Pl.ok,Bool.and_eq_true] at hs;obtain⟨⟨⟨⟨Cr,wo⟩,nU⟩,hE',hk⟩,tm⟩:=hs;have fg:i<L.length:=Nat.le_of_ble_eq_true Cr;have u0:d.testBit i=false:=by simpa using wo
      have hE:Nat.testBit E i=false:=by simpa using hE'
      have Ja:L.toArray[i]? =some L[i]:=by simp[fg]
      obtain⟨nI,nb⟩:=TK pt wv hl fg u0 nU;have HQ:=hl.put fg nU;simp only[Pl.len] at hf;cases k with
      |false=>
        obtain⟨o,v,ho,hy,hw⟩:=h;have:o=L[i]:=Option.some.inj (ho.symm.trans Ja);subst this;refine Cq Ja (Region.noSelect_spec pO) hE ?_ fuel listed a w nb nI hy (ih rest _ _ _ w tm HQ Om hw);intro c a w hq;cases hd:L[i].dst with
        |none=>rw[hd] at hq;exact hq
        |some d'=>rw[hd] at hq;exact hQ c a w d' v hq
      |true=>
        obtain⟨o,v,ho,hy,hw⟩:=h;have:o=L[i]:=Option.some.inj (ho.symm.trans Ja);subst this;refine Cp Ja (Region.noSelect_spec pO) hE (.inl rfl) fuel listed a w nb ?_ nI hy (ih rest _ _ _ w tm HQ Om hw);intro j hj tg hEj;rw[Ty] at hj;have h1:=kk _ _ (by simpa using hk) j Om Om;rw[hl.at_ j hj] at tg;simp only[tg,hEj,Bool.not_true,Bool.false_or] at h1;exact .inr h1
    |ef i rest alt=>
      simp only[Pl.ok] at hs;rw[Bool.and_eq_true,Bool.and_eq_true] at hs;obtain⟨⟨tj,hi⟩,halt⟩:=hs;exact vN pt wv (pl:=.ef i rest alt) List.mem_cons_self ih tj (by simp only[Pl.oks];rw[Bool.and_eq_true];exact⟨hi,halt⟩) hl hf h
    |er i rest alt=>
      simp only[Pl.ok] at hs;rw[Bool.and_eq_true,Bool.and_eq_true] at hs;obtain⟨⟨tj,hi⟩,halt⟩:=hs;exact vN pt wv (pl:=.er i rest alt) List.mem_cons_self ih tj (by simp only[Pl.oks];rw[Bool.and_eq_true];exact⟨hi,halt⟩) hl hf h
theorem ED {L:List Oper} {id:Nat} (E:Nat) (pl:Pl) (hm:P.follows .mixedOrders=true) (hB:GC L E pl=true)
    (hQ:∀c a w (d:Nat) v,Q (.panic c) (a.put (some d) v) w→Q (.panic c) a w) {a:Act} {w:World} (h:EB P L.toArray Q pl a w.drew):(Code.region id L.toArray true).wp P Q a w:=by
  simp only[GC,Bool.and_eq_true] at hB;obtain⟨⟨⟨⟨h1,h0⟩,h2⟩,h3⟩,h4⟩:=hB;have Jx:pl.len≤L.length:=Nat.le_of_ble_eq_true h0;refine vJ (E:=fun j=>Nat.testBit E j) hm ?_;have hl:PS L 0 (Array.replicate L.toArray.size false):=⟨Oi,fun j hj=>by simp[hj],fun j hj hd=>by simp at hd⟩;exact EC (P:=P) h1 h2 h3 hQ L.toArray.size pl 0 _ a w.drew h4 hl (by simpa using Jx) h
end
section
variable {P:Program} {K:Kx} {Q:Exit→Act→World→Prop} {ρ:ba} {l r:List aU} {L:List Oper} {o:Oper} {d i:Nat} {v:Value} {os alt:Pl}
def GT (P:Program) (K:Kx) (Q:Exit→Act→World→Prop) (L:List Oper) (pl:Pl) (ρ:ba) (l r:List aU):Prop:=∀a w,At K ρ l r a w→EB P L.toArray Q pl a w
theorem G.tree {id:Nat} {L:List Oper} (E:Nat) (pl:Pl) (hm:P.follows .mixedOrders=true) (hB:GC L E pl=true) (hQ:∀c a w (d:Nat) v,Q (.panic c) (a.put (some d) v) w→Q (.panic c) a w) (h:GT P K Q L pl ρ l r):G P K Q (.region id L.toArray true) ρ l r:=
  fun a w ha=>ED E pl hm hB hQ (h a w.drew ha.drew)
theorem GT.y (h:bB P ρ o v) (hi:nth i L=some o) (hw:want L ρ o=some true) (hd:o.dst=some d) (hn:Nat.blt d K.n=true) (k:GT P K Q L os ((d,v)::ρ) l r):GT P K Q L (.st i false os) ρ l r:=
  fun a w ha=>⟨o,v,kj hi,.inl ⟨ja hw ha.fr,fun w'=>h a ha.fr w'⟩,by rw[hd];exact k _ _ (ha.put hn v)⟩
theorem GT.rd (h:wx P ρ l r o v) (hi:nth i L=some o) (hw:want L ρ o=some true) (hd:o.dst=some d) (hn:Nat.blt d K.n=true) (k:GT P K Q L os ((d,v)::ρ) l r):GT P K Q L (.st i true os) ρ l r:=
  fun a w ha=>⟨o,v,kj hi,.inl ⟨ja hw ha.fr,.inl (h a w ha.fr ha.st)⟩,by rw[hd];exact k _ _ (ha.put hn v)⟩
theorem GT.skip (hi:nth i L=some o) (hw:want L ρ o=some false) (hd:o.dst=some d) (hn:Nat.blt d K.n=true) (k:GT P K Q L os ((d,undef)::ρ) l r):GT P K Q L (.st i false os) ρ l r:=
  fun a w ha=>⟨o,undef,kj hi,.inr ⟨ja hw ha.fr,rfl⟩,by rw[hd];exact k _ _ (ha.put hn undef)⟩
theorem GT.bG {N:ba→List aU→Prop} (h:oL P K ρ l r o N) (hi:nth i L=some o) (hw:want L ρ o=some true) (k:∀ρ' l',N ρ' l'→GT P K Q L os ρ' l' r) (ha:GT P K Q L alt ρ l r):GT P K Q L (.ef i os alt) ρ l r:=by
  intro a w hA;refine⟨?_,ha a w hA⟩;show wpOp P L.toArray Q i (EB P L.toArray Q os) a w;unfold wpOp;rw[kj hi];simp only[];rw[if_pos (ja hw hA.fr)];left;exact h a w hA _ _ fun a' w' ⟨ρ',l',hN,hA'⟩=>k ρ' l' hN a' w' hA'
theorem GT.er (h:wx P ρ l r o v) (hi:nth i L=some o) (hw:want L ρ o=some true) (hd:o.dst=some d) (hn:Nat.blt d K.n=true) (k:GT P K Q L os ((d,v)::ρ) l r) (ha:GT P K Q L alt ρ l r):GT P K Q L (.er i os alt) ρ l r:=
  fun a w hA=>⟨(show YieldsAt P L.toArray w o v a from .inl ⟨ja hw hA.fr,.inl (h a w hA.fr hA.st)⟩).stOp (kj hi) (by rw[hd];exact k _ _ (hA.put hn v)),ha a w hA⟩
theorem GT.stop:GT P K Q L .stop ρ l r:=fun _ _ _=>trivial
theorem GT.nil (h:GQ K Q .normal ρ l r):GT P K Q L .nil ρ l r:=fun a w ha=>h a w ha
end
section
variable {P:Program} {K:Kx} {Q:Exit→Act→World→Prop} {ρ:ba} {l r:List aU} {o:Oper} {v:Value} {x y z:Operand} {t s f sz n m c lo hi len cap b q j d:Nat} {k k':IntKind}
theorem ng (xs ys:List Nat):aa k (xs++ys)=aa k xs++aa k ys:=by simp[aa]
theorem Ks (n x:Nat):List.replicate n (.int k ((x:Nat):Int))=aa k (List.replicate n x):=by simp[aa]
theorem xK (xs:List Nat):((aa k xs).all fun u=>u.oneCell')=true:=by
  simp[aa,Value.oneCell']
theorem ga (xs:List Nat) (j m:Nat):((aa k xs).drop j).take (aa k ((xs.drop j).take m)).length=aa k ((xs.drop j).take m):=by
  simp[aa,List.map_take,List.map_drop,List.take_take]
theorem GD {cs:List Value} {xs:List Nat} (h:cs.take n=aa k xs) (hj:j<n∧j<xs.length):cs[j]? =some (.int k ((xs.getD j 0:Nat):Int)):=by
  rw[←af hj.2, ←h,List.getElem?_take,if_pos hj.1]
theorem GS.adB {q:Option Addr} {b o:Nat} {cs:List Value} (h:GS q b o cs 1 cap) {j:Nat} (hj:j<cap):j<cs.length:=by have:=h.len;omega
theorem EE {xs:List Nat} (h:j<xs.length):((aa k xs).drop j).take 1=[.int k ((xs.getD j 0:Nat):Int)]:=by
  have:(aa k xs).drop j=.int k ((xs.getD j 0:Nat):Int)::(aa k xs).drop (j+1):=by
    rw[List.drop_eq_getElem_cons (by simpa using h)];congr 1;have:=af (k:=k) h;simpa [h] using this
  rw[this];rfl
theorem dd {ca:Call} {q q2:Option Addr} {b o' c2 e qL:Nat} {cs zs:List Value} {xs ys:List Nat} {sh:Option (TypeId × Nat)} (i:Nat) (ho:o.op=.call ca) (hc:ca.callee=.builtin .append) (jZ:evs ρ ca.args.toList=some [.slice q n cap,.slice q2 m c2]) (yY:ca.argTypes= #[t,t]) (hP:gM P t=some (e,zs,1,qL)) (hz:zs.length=1)
    (hs:nthS i l=some ⟨b,o',cs,sh⟩) (hg:GS q b o' cs 1 cap) (hp:cs.take n=aa k xs) (vd:Src l r q2 (aa k ys)) (hn:n≤cap∧(n+m)*qL≤140737488355328∧n+m≤9223372036854775807∧ys.length=m) (hd:o.dst=some d) (wo:Nat.blt d K.n=true):
    oL P K ρ l r o (fun ρ' l'=>∃q' b' o' kd ig,GS q' b' o' kd 1 ig∧n+m≤ig∧kd.take (n+m)=aa k (xs++ys)∧ρ'=(d,.slice q' (n+m) ig)::ρ∧l'=setS i ⟨b',o',kd,none⟩ l):=by
  intro a w ha nx Q px;refine adz (K:=K) i ho hc jZ yY hP hz hs hg vd ⟨hn.1,Om,hn.2.1,hn.2.2.1⟩ (by simp[hn.2.2.2]) (xK _) hd wo a w ha nx Q fun a' w' ⟨ρ',l',⟨q',b',Eg,kd,ig,h1,h2,h3,h4,h5⟩,h6⟩=>px a' w' ⟨ρ',l',⟨q',b',Eg,kd,ig,h1,h2,?_,h4,h5⟩,h6⟩
  rw[Nat.mul_one,Nat.mul_one,hp] at h3;rw[h3,ng]
theorem nZ {kl kc:IntKind} {e qL:Nat} (ho:o.op=.makeSlice t x y) (hx:ev ρ x=some (.int kl ((m:Nat):Int))) (hy:ev ρ y=some (.int kc ((c:Nat):Int))) (hP:gM P t=some (e,[.int k ((0:Nat):Int)],1,qL)) (h:m≤c∧qL*c≤281474976710656∧c≤9223372036854775807) (hd:o.dst=some d) (hn:Nat.blt d K.n=true):
    oL P K ρ l r o (fun ρ' l'=>∃b,ρ'=(d,.slice (some ⟨b,0,none⟩) m c)::ρ∧l'=⟨b,0,aa k (List.replicate c 0),none⟩::l):=by
  have:=alK (K:=K) (l:=l) (r:=r) ho hx hy hP h hd hn;rwa [Ks] at this
theorem cE {e:Nat} {zs vs:List Value} {pv:List (Nat × Value)} {ps:List (Nat × Operand)} (qL:Nat) (ho:o.op=.buildSlice t n ps.toArray) (PT:evs ρ (ps.map (·.2))=some (pv.map (·.2))∧ps.map (·.1)=pv.map (·.1)) (hP:gM P t=some (e,zs,sz,qL)) (hn:n*sz≤16777216)
    (hf:Instr.fill (fun i=>some (i*sz,sz)) ((Array.range (n*sz)).map (zs.toArray[· %zs.toArray.size]!)) pv=some vs.toArray) (hd:o.dst=some d) (wo:Nat.blt d K.n=true):
    oL P K ρ l r o (fun ρ' l'=>∃b,ρ'=(d,.slice (some ⟨b,0,none⟩) n n)::ρ∧l'=⟨b,0,vs,none⟩::l):=by
  intro a w ha nx Q px;obtain⟨i,zv,hu,hi,vc,pK,wT,TG⟩:=jc hP;have ve:∀w,(sizeOf e).run P w=.ok sz w:=du (by simp[cY,hi,wT]);have hzr:∀w,(zeroValue e).run P w=.ok zv w:=fun w=>by simp[zeroValue,ly hi,vc]
  have A0:zv.cells=zs.toArray:=by apply Array.toList_inj.1;simpa using pK
  have hpv:ps.map (fun p=>(p.1,a.eval p.2))=pv:=by
    have h1:=pT ha.fr _ _ PT.1;have h2:=PT.2;clear hf PT ho;induction ps generalizing pv with
    |nil=>cases pv with
      |nil=>rfl
      |cons=>simp at h2
    |cons p ps ih=>cases pv with
      |nil=>simp at h2
      |cons u us=>
        simp at h1 h2;simp only[List.map_cons,List.cons.injEq];exact⟨by rw[h1.1,h2.1],ih (by simpa using h1.2) h2.2⟩
  have adC:(ps.toArray.map fun (p:Nat × Operand)=>(p.1,a.eval p.2)).toList=pv:=by simpa using hpv
  unfold Oper.wp;have lK:(Array.range (n*sz)).map ((if n*sz=0 then #[] else zv.cells)[· %(if n*sz=0 then #[] else zv.cells).size]!)=(Array.range (n*sz)).map (zs.toArray[· %zs.toArray.size]!):=by
    split
    · rename_i h0;rw[h0];simp
    · rw[A0]
  have he:(execOp a.eval o).run P w=.ok (.value (.slice (some ⟨w.heap.size,0,none⟩) n n)) (w.alloc (.cells vs.toArray e)):=by
    have adD:¬n*sz>2^24:=Om;by_cases h0:n*sz=0
    · rw[h0] at hf adD;simp only[execOp,ho];have hr0:Array.range 0= #[]:=rfl;simp only[hr0,Array.map_empty] at hf;simp[Instr.buildSlice,br hu,ve,h0,newRow,hr0,hpv,hf]
    · simp only[execOp,ho];simp[Instr.buildSlice,br hu,ve,hzr,h0,adD,newRow,A0] at hf ⊢;simp[hpv,hf,newRow]
  rw[he];simp only[Oper.upon,hd];refine px _ _ ⟨_,_,⟨w.heap.size,rfl,rfl⟩,?_⟩;exact((ha.alloc vs.toArray e).nf).put wo (.slice (some ⟨w.heap.size,0,none⟩) n n)
def lq (P:Program) (t:Nat):Option (List (Nat × Nat)):=
  match P.underlying t with
  |some (.struct fs)=>fs.toList.mapM fun f=>(cY P f.type).map fun s=>(f.offset,s)
  |_=>none
theorem run_places (P:Program) (w:World):∀(fs:List Field) (ps:List (Nat × Nat)),fs.mapM (fun f=>(cY P f.type).map fun s=>(f.offset,s))=some ps→(fs.mapM fun f=>(do pure (f.offset, ←sizeOf f.type):Sem (Nat × Nat))).run P w=.ok ps w
  |[],ps,h=>by simp at h;subst h;simp
  |f::fs,ps,h=>by
    rw[List.mapM_cons] at h;cases hs:cY P f.type with
    |none=>simp[hs] at h
    |some s=>
      have hsr:=du hs w;cases hr:fs.mapM (fun f=>(cY P f.type).map fun s=>(f.offset,s)) with
      |none=>simp[hs,hr] at h
      |some rs=>
        simp[hs,hr] at h;subst h;have ih:=run_places P w fs rs hr;rw[List.mapM_cons];simp at ih;simp[hsr,ih]
theorem xL {zs vs:List Value} {pl:List (Nat × Nat)} {pv:List (Nat × Value)} {ps:List (Nat × Operand)} (ho:o.op=.build t ps.toArray) (PT:evs ρ (ps.map (·.2))=some (pv.map (·.2))∧ps.map (·.1)=pv.map (·.1)) (hS:lq P t=some pl) (hZ:gk P t=some zs)
    (hf:Instr.fill (pl.toArray[·]?) zs.toArray pv=some vs.toArray):bB P ρ o (.agg vs.toArray):=by
  intro a ha w;have hpv:ps.map (fun p=>(p.1,a.eval p.2))=pv:=by
    have h1:=pT ha _ _ PT.1;have h2:=PT.2;clear hf PT ho;induction ps generalizing pv with
    |nil=>cases pv with
      |nil=>rfl
      |cons=>simp at h2
    |cons p ps ih=>cases pv with
      |nil=>simp at h2
      |cons u us=>
        simp at h1 h2;simp only[List.map_cons,List.cons.injEq];exact⟨by rw[h1.1,h2.1],ih (by simpa using h1.2) h2.2⟩
  unfold gk at hZ;cases hi:P.info? t with
  |none=>simp[hi] at hZ
  |some i=>
    cases vc:i.zero with
    |none=>simp[hi,vc] at hZ
    |some zv=>
      simp[hi,vc] at hZ;have A0:zv.cells=zs.toArray:=by apply Array.toList_inj.1;simpa using hZ
      unfold lq at hS;cases hu:P.underlying t with
      |none=>simp[hu] at hS
      |some D=>
        cases D<;>simp[hu] at hS;rename_i fs;have hm:=run_places P w fs.toList pl hS;have hzr:(zeroValue t).run P w=.ok zv w:=by simp[zeroValue,ly hi,vc]
        simp only[execOp,ho];simp only[Instr.build,Sem.run_bind,hzr,Result.andThen_ok,br hu,Array.mapM_eq_mapM_toList,Sem.run_map];have adC:(ps.toArray.map fun (p:Nat × Operand)=>(p.1,a.eval p.2)).toList=pv:=by simpa using hpv
        rw[hm];simp only[Result.andThen_ok,adC,A0,hf,Sem.run_pure]
theorem EF (xs:List Nat) (n:Nat):(aa k xs).take n=aa k (xs.take n):=by simp[aa,List.map_take]
def cH (xs:List Nat) (j:Nat) (ys:List Nat):List Nat:=xs.take j++ys++xs.drop (j+ys.length)
theorem Kt (xs ys:List Nat) (j:Nat) (h:j+ys.length≤xs.length):spl (aa k xs) j (aa k ys)=aa k (cH xs j ys):=by
  rw[xJ _ _ _ (by simpa using h)];simp[cH,aa,List.map_take,List.map_drop]
theorem aq {xs ys:List Nat} {j:Nat} (h:j+ys.length≤xs.length):(cH xs j ys).length=xs.length:=by
  simp[cH];omega
end
theorem vf {m n:Nat} (h:m<256) (k:n<256):m|||n<256:=Nat.or_lt_two_pow (n:=8) h k
theorem ij {m n:Nat} (h:m<4294967296) (k:n<4294967296):m|||n<4294967296:=Nat.or_lt_two_pow (n:=32) h k
theorem c7 {m n:Nat} (h:m<18446744073709551616) (k:n<18446744073709551616):m|||n<18446744073709551616:=Nat.or_lt_two_pow (n:=64) h k
def Bytes (xs:List Nat):Prop:=∀x ∈ xs,x<256
theorem Bytes.at_ {xs:List Nat} (h:Bytes xs) (i:Nat):xs.getD i 0<256:=by
  rw[List.getD_eq_getElem?_getD];rcases Nat.lt_or_ge i xs.length with hi|hi
  · simp only[hi,List.getElem?_eq_getElem,Option.getD_some];exact h _ (List.getElem_mem hi)
  · simp[List.getElem?_eq_none hi]
def dP (xs:List Nat) (k:Nat):Nat:=((xs.getD k 0|||xs.getD (k+1) 0*2^8%4294967296)|||xs.getD (k+2) 0*2^16%4294967296)|||xs.getD (k+3) 0*2^24%4294967296
theorem fw {xs:List Nat} (h:Bytes xs) (k:Nat):dP xs k<4294967296:=by
  have h0:=h.at_ k;unfold dP;exact ij (ij (ij Om Om) Om) Om
def mW (xs:List Nat) (k:Nat):Nat:=((((((xs.getD k 0|||xs.getD (k+1) 0*2^8%18446744073709551616)|||xs.getD (k+2) 0*2^16%18446744073709551616)|||xs.getD (k+3) 0*2^24%18446744073709551616)|||xs.getD (k+4) 0*2^32%18446744073709551616)|||xs.getD (k+5) 0*2^40%18446744073709551616)|||xs.getD (k+6) 0*2^48%18446744073709551616)|||xs.getD (k+7) 0*2^56%18446744073709551616
theorem oU {xs:List Nat} (h:Bytes xs) (k:Nat):mW xs k<18446744073709551616:=by
  have h0:=h.at_ k;unfold mW;exact c7 (c7 (c7 (c7 (c7 (c7 (c7 Om Om) Om) Om) Om) Om) Om) Om
def av (n:Nat):Nat:=if n=0 then 0 else Nat.log2 n+1
theorem Ku (n k:Nat) (h:2^k≤n):Nat.log2 n=k+Nat.log2 (n/2^k):=by
  induction k generalizing n with
  |zero=>simp
  |succ k ih=>
    have h2:2≤n:=Nat.le_trans (by have:1≤2^k:=Nat.one_le_two_pow;rw[Nat.pow_succ];omega) h;rw[Nat.log2_def,if_pos h2,ih (n/2) (by rw[Nat.le_div_iff_mul_le Om, ←Nat.pow_succ];exact h),Nat.div_div_eq_div_mul,show 2*2^k=2^(k+1) by rw[Nat.pow_succ,Nat.mul_comm]];omega
theorem tB (n k:Nat) (h:2^k≤n):av n=k+av (n/2^k):=by
  have h1:n/2^k≠0:=by
    have:=(Nat.le_div_iff_mul_le (x:=1) (y:=n) (Nat.pow_pos (n:=k) (show 0<2 by omega))).2 Om;omega
  have h0:n≠0:=by intro e;subst e;simp at h1
  unfold av;rw[if_neg h0,if_neg h1,Ku n k h];omega
theorem dx {n k:Nat} (h:n<2^k):av n≤k:=by
  unfold av;split
  · omega
  · rename_i h0;have:=(Nat.log2_lt h0).2 h;omega
def Kv:ByteArray:=⟨#[0,1,2,2,3,3,3,3,4,4,4,4,4,4,4,4,5,5,5,5,5,5,5,5,5,5,5,5,5,5,5,5,6,6,6,6,6,6,6,6,6,6,6,6,6,6,6,6,6,6,6,6,6,6,6,6,6,6,6,6,6,6,6,6,7,7,7,7,7,7,7,7,7,7,7,7,7,7,7,7,7,7,7,7,7,7,7,7,7,7,7,7,7,7,7,7,7,7,7,7,7,7,7,7,7,7,7,7,7,7,7,7,7,7,7,7,7,7,7,7,7,7,7,7,7,7,7,7,8,8,8,8,8,8,8,8,8,8,8,8,8,8,8,8,8,8,8,8,8,8,8,8,8,8,8,8,8,8,8,8,8,8,8,8,8,8,8,8,8,8,8,8,8,8,8,8,8,8,8,8,8,8,8,8,8,8,8,8,8,8,8,8,8,8,8,8,8,8,8,8,8,8,8,8,8,8,8,8,8,8,8,8,8,8,8,8,8,8,8,8,8,8,8,8,8,8,8,8,8,8,8,8,8,8,8,8,8,8,8,8,8,8,8,8,8,8,8,8,8,8,8,8,8,8,8,8]⟩
theorem wU:∀m:Nat,m<256→Kv[m]?.map UInt8.toNat=some (av m):=by decide+kernel
theorem dT {n:Nat} (h:0<n):0<av n:=by
  unfold av;rw[if_neg Om];omega
theorem tC {n:Nat} (h:0<n):2^(av n-1)≤n:=by
  unfold av;rw[if_neg Om];exact Nat.log2_self_le Om
theorem jd (n:Nat):n<2^av n:=by
  unfold av;split
  · rename_i h;subst h;decide
  · exact Nat.lt_log2_self
structure BR where
  off:Nat
  val:Nat
  rd:Nat
def BR.rC (s:BR) (n:Nat):BR:=⟨s.off,s.val*2^(n&&&63)%18446744073709551616,(s.rd+n)%256⟩
def BR.gI (xs:List Nat) (k:Nat) (s:BR):BR:=⟨s.off-4,s.val|||dP xs (k+(s.off-4))*2^(s.rd-32)%18446744073709551616,s.rd-32⟩
def BR.de (xs:List Nat) (k:Nat) (s:BR):BR:=if s.rd<32 then s else s.gI xs k
def BR.gv (xs:List Nat) (k:Nat) (s:BR):BR:=⟨s.off-1,s.val|||xs.getD (k+(s.off-1)) 0*2^(s.rd-8)%18446744073709551616,s.rd-8⟩
def BR.loads (xs:List Nat) (k:Nat):Nat→BR→BR
  |0,s=>s
  |n+1,s=>(BR.loads xs k n s).gv xs k
def BR.fill (t:Nat) (xs:List Nat) (k:Nat) (s:BR):BR:=if s.rd<32 then s else if t≤s.off then s.gI xs k else BR.loads xs k s.off s
def BR.start (t:Nat) (xs:List Nat) (k len:Nat):BR:=if 8≤len then ⟨len-8,mW xs (k+(len-8)),0⟩ else BR.fill t xs k (BR.fill t xs k ⟨len,0,64⟩)
def BR.init (t:Nat) (xs:List Nat) (k len:Nat):BR:=(BR.start t xs k len).rC (8-(av (xs.getD (k+(len-1)) 0)-1))
def BR.VK (s:BR) (n:Nat):Nat:=s.val/2^((64-n)&&&63)%65536
def BR.left (s:BR):Nat:=s.off*8+(64-s.rd)
structure BR.OK (len:Nat) (s:BR):Prop where
  off:s.off≤len
  val:s.val<18446744073709551616
  rd:s.rd<256
theorem BR.OK.gI {xs:List Nat} {k len:Nat} {s:BR} (h:s.OK len):(s.gI xs k).OK len:=
  ⟨by have:=h.off;simp[BR.gI];omega,c7 h.val (Nat.mod_lt _ Od),by have:=h.rd;simp[BR.gI];omega⟩
theorem BR.OK.rC {len:Nat} {s:BR} (h:s.OK len) (n:Nat):(s.rC n).OK len:=⟨h.off,Nat.mod_lt _ Od,Nat.mod_lt _ Od⟩
theorem BR.OK.gv {xs:List Nat} {k len:Nat} {s:BR} (h:s.OK len):(s.gv xs k).OK len:=
  ⟨by have:=h.off;simp[BR.gv];omega,c7 h.val (Nat.mod_lt _ Od),by have:=h.rd;simp[BR.gv];omega⟩
theorem BR.OK.loads {xs:List Nat} {k len:Nat} {s:BR} (h:s.OK len):∀n,(BR.loads xs k n s).OK len
  |0=>h
  |n+1=>(BR.OK.loads h n).gv
theorem BR.kT {xs:List Nat} {k:Nat} {s:BR}:∀n,(BR.loads xs k n s).off=s.off-n
  |0=>rfl
  |n+1=>by simp[BR.loads,BR.gv,BR.kT n];omega
theorem BR.n3 {xs:List Nat} {k:Nat} {s:BR}:∀n,(BR.loads xs k n s).rd=s.rd-8*n
  |0=>rfl
  |n+1=>by simp[BR.loads,BR.gv,BR.n3 n];omega
theorem BR.OK.fill {t:Nat} {xs:List Nat} {k len:Nat} {s:BR} (h:s.OK len):(BR.fill t xs k s).OK len:=by
  unfold BR.fill;split
  · exact h
  · split
    · exact h.gI
    · exact h.loads _
theorem BR.GF {t:Nat} {xs:List Nat} {k:Nat} {s:BR} (h:s.rd≤64):(BR.fill t xs k s).rd≤64:=by
  unfold BR.fill;split
  · exact h
  · split
    · simp[BR.gI];omega
    · rw[BR.n3];omega
theorem BR.sn {t:Nat} {xs:List Nat} {k len:Nat} (ht:4≤t) (hl:len<8):8*(BR.fill t xs k ⟨len,0,64⟩).off≤(BR.fill t xs k ⟨len,0,64⟩).rd:=by
  unfold BR.fill;rw[if_neg Oi];split
  · simp[BR.gI];omega
  · rw[BR.kT,BR.n3];simp
def tailV (xs:List Nat) (k:Nat):Nat→Nat
  |0=>0
  |n+1=>tailV xs k n+xs.getD (k+n) 0*2^(8*n)
theorem iQ {xs:List Nat} (h:Bytes xs) (k:Nat):∀n,tailV xs k n<2^(8*n)
  |0=>by simp[tailV]
  |n+1=>by
    have h1:=iQ h k n;have h2:=h.at_ (k+n);have h3:xs.getD (k+n) 0*2^(8*n)≤255*2^(8*n):=Nat.mul_le_mul_right _ Om;have h4:2^(8*(n+1))=256*2^(8*n):=by rw[show 8*(n+1)=8+8*n by omega,Nat.pow_add]
    simp only[tailV];omega
theorem tD {a b n:Nat} (h:b<2^n):a*2^n|||b=a*2^n+b:=by
  have:=Nat.shiftLeft_add_eq_or_of_lt h a;rw[Nat.shiftLeft_eq] at this;exact this.symm
theorem gn {a b n:Nat} (h:b<2^n):b|||a*2^n=a*2^n+b:=by rw[Nat.or_comm];exact tD h
theorem xM {xs:List Nat} (h:Bytes xs) (k:Nat):dP xs k=xs.getD k 0+xs.getD (k+1) 0*2^8+xs.getD (k+2) 0*2^16+xs.getD (k+3) 0*2^24:=by
  have h0:=h.at_ k;have h1:=h.at_ (k+1);have h2:=h.at_ (k+2);have h3:=h.at_ (k+3);unfold dP;rw[Nat.mod_eq_of_lt Om,Nat.mod_eq_of_lt Om,Nat.mod_eq_of_lt Om,gn (n:=8) Om,gn (n:=16) Om,gn (n:=24) Om];omega
theorem CC {xs:List Nat} (h:Bytes xs) (k:Nat):mW xs k=tailV xs k 8:=by
  have h0:=h.at_ k;have h1:=h.at_ (k+1);have h2:=h.at_ (k+2);have h3:=h.at_ (k+3);have h4:=h.at_ (k+4);have h5:=h.at_ (k+5);have h6:=h.at_ (k+6);have h7:=h.at_ (k+7);unfold mW;rw[Nat.mod_eq_of_lt Om,Nat.mod_eq_of_lt Om,Nat.mod_eq_of_lt Om,Nat.mod_eq_of_lt Om,Nat.mod_eq_of_lt Om,Nat.mod_eq_of_lt Om,Nat.mod_eq_of_lt Om,
    gn (n:=8) Om,gn (n:=16) Om,gn (n:=24) Om,gn (n:=32) Om,gn (n:=40) Om,gn (n:=48) Om,gn (n:=56) Om]
  simp only[tailV,Nat.add_zero];omega
structure Pos (xs:List Nat) (k len:Nat) (s:BR) (n R:Nat):Prop where
  ok:s.OK len
  rd:s.rd≤64
  n:n=8*s.off+(64-s.rd)
  dv:∃q,s.val=q*2^s.rd∧q<2^(64-s.rd)∧R=q*2^(8*s.off)+tailV xs k s.off
theorem Pos.rC {xs:List Nat} {k len:Nat} {s:BR} {n R m:Nat} (h:Pos xs k len s n R) (hb:Bytes xs) (hm:m<64) (hr:s.rd+m≤64):Pos xs k len (s.rC m) (n-m) (R%2^(n-m)):=by
  obtain⟨q,hv,hq,hR⟩:=h.dv;have h63:m&&&63=m:=by rw[show(63:Nat)=2^6-1 from rfl,Nat.and_two_pow_sub_one_eq_mod];exact Nat.mod_eq_of_lt hm
  have lY:(s.rC m).rd=s.rd+m:=by simp[BR.rC];omega
  have hp:(2:Nat)^64=2^(64-s.rd-m)*2^(s.rd+m):=by rw[←Nat.pow_add];congr 1;omega
  have jv:(s.rC m).val=(q%2^(64-s.rd-m))*2^(s.rd+m):=by
    show s.val*2^(m&&&63)%18446744073709551616=_;rw[h63,hv,show(18446744073709551616:Nat)=2^64 from rfl,hp,Nat.mul_assoc, ←Nat.pow_add,Nat.mul_mod_mul_right]
  refine⟨h.ok.rC m,Om,by rw[h.n,lY];show _=8*s.off+_;omega,q%2^(64-s.rd-m),by rw[jv,lY],?_,?_⟩
  · rw[lY,show 64-(s.rd+m)=64-s.rd-m by omega];exact Nat.mod_lt _ (Nat.pow_pos Om)
  · show R%2^(n-m)=q%2^(64-s.rd-m)*2^(8*s.off)+tailV xs k s.off;have hn:n-m=(64-s.rd-m)+8*s.off:=by rw[h.n];omega
    have ht:=iQ hb k s.off;rw[hR,hn,Nat.pow_add];have e1:q*2^(8*s.off)+tailV xs k s.off=2^(8*s.off)*q+tailV xs k s.off:=by rw[Nat.mul_comm]
    rw[e1,Nat.mul_comm (2^(64-s.rd-m)),Nat.mod_mul,Nat.mul_add_mod,Nat.mod_eq_of_lt ht,Nat.mul_add_div (Nat.pow_pos Om),Nat.div_eq_of_lt ht];simp only[Nat.add_zero];rw[Nat.mul_comm,Nat.add_comm]
theorem xN {xs:List Nat} {k n:Nat} (h:0<n):tailV xs k n=tailV xs k (n-1)+xs.getD (k+(n-1)) 0*2^(8*(n-1)):=by
  cases n with
  |zero=>omega
  |succ n=>rfl
theorem Pos.gv {xs:List Nat} {k len:Nat} {s:BR} {n R:Nat} (h:Pos xs k len s n R) (hb:Bytes xs) (hr:8≤s.rd) (ho:0<s.off):Pos xs k len (s.gv xs k) n R:=by
  obtain⟨q,hv,hq,hR⟩:=h.dv;have hx:=hb.at_ (k+(s.off-1));have lY:=h.rd;have h8:(2:Nat)^s.rd=256*2^(s.rd-8):=by rw[show s.rd=8+(s.rd-8) by omega,Nat.pow_add,show 8+(s.rd-8)-8=s.rd-8 by omega]
  have fg:xs.getD (k+(s.off-1)) 0*2^(s.rd-8)<2^s.rd:=by
    rw[h8];exact Nat.mul_lt_mul_of_pos_right hx (Nat.pow_pos Om)
  have GG:(2:Nat)^s.rd≤18446744073709551616:=Nat.pow_le_pow_right (n:=2) Om (show s.rd≤64 from lY);have jv:(s.gv xs k).val=(q*256+xs.getD (k+(s.off-1)) 0)*2^(s.rd-8):=by
    show s.val|||_%18446744073709551616=_;rw[Nat.mod_eq_of_lt Om,hv,tD fg,h8,Nat.add_mul,Nat.mul_assoc]
  refine⟨h.ok.gv,by show s.rd-8≤64;omega,by rw[h.n];show _=8*(s.off-1)+(64-(s.rd-8));omega,q*256+xs.getD (k+(s.off-1)) 0,jv,?_,?_⟩
  · show _<2^(64-(s.rd-8));rw[show 64-(s.rd-8)=(64-s.rd)+8 by omega,Nat.pow_add];omega
  · show R=(q*256+xs.getD (k+(s.off-1)) 0)*2^(8*(s.off-1))+tailV xs k (s.off-1);rw[hR,xN ho,Nat.add_mul,Nat.mul_assoc,show(256:Nat)*2^(8*(s.off-1))=2^(8*s.off) by rw[show(256:Nat)=2^8 from rfl, ←Nat.pow_add];congr 1;omega];omega
theorem Pos.loads {xs:List Nat} {k len:Nat} {s:BR} {n R:Nat} (h:Pos xs k len s n R) (hb:Bytes xs):∀m,8*m≤s.rd→m≤s.off→Pos xs k len (BR.loads xs k m s) n R
  |0,_,_=>h
  |m+1,h1,h2=>by
    have ih:=Pos.loads h hb m Om Om;exact ih.gv hb (by rw[BR.n3];omega) (by rw[BR.kT];omega)
theorem Pos.gI {xs:List Nat} {k len:Nat} {s:BR} {n R:Nat} (h:Pos xs k len s n R) (hb:Bytes xs) (hr:32≤s.rd) (ho:4≤s.off):Pos xs k len (s.gI xs k) n R:=by
  obtain⟨q,hv,hq,hR⟩:=h.dv;have hx:=fw hb (k+(s.off-4));have lY:=h.rd;have h8:(2:Nat)^s.rd=4294967296*2^(s.rd-32):=by
    rw[show s.rd=32+(s.rd-32) by omega,Nat.pow_add,show 32+(s.rd-32)-32=s.rd-32 by omega]
  have fg:dP xs (k+(s.off-4))*2^(s.rd-32)<2^s.rd:=by
    rw[h8];exact Nat.mul_lt_mul_of_pos_right hx (Nat.pow_pos Om)
  have GG:(2:Nat)^s.rd≤18446744073709551616:=Nat.pow_le_pow_right (n:=2) Om (show s.rd≤64 from lY);have jv:(s.gI xs k).val=(q*4294967296+dP xs (k+(s.off-4)))*2^(s.rd-32):=by
    show s.val|||_%18446744073709551616=_;rw[Nat.mod_eq_of_lt Om,hv,tD fg,h8,Nat.add_mul,Nat.mul_assoc]
  refine⟨h.ok.gI,by show s.rd-32≤64;omega,by rw[h.n];show _=8*(s.off-4)+(64-(s.rd-32));omega,q*4294967296+dP xs (k+(s.off-4)),jv,?_,?_⟩
  · show _<2^(64-(s.rd-32));rw[show 64-(s.rd-32)=(64-s.rd)+32 by omega,Nat.pow_add];omega
  · show R=(q*4294967296+dP xs (k+(s.off-4)))*2^(8*(s.off-4))+tailV xs k (s.off-4);obtain⟨f,hf⟩:∃f,s.off=f+4:=⟨s.off-4,Om⟩;rw[hR,hf,Nat.add_sub_cancel,xM hb];simp only[tailV];rw[show 8*(f+4)=8*f+32 by omega,show 8*(f+3)=8*f+24 by omega,show 8*(f+2)=8*f+16 by omega,show 8*(f+1)=8*f+8 by omega];simp only[Nat.pow_add,Nat.add_assoc k];generalize 2^(8*f)=F;generalize tailV xs k f=T;generalize xs.getD (k+f) 0=a0;generalize xs.getD (k+(f+1)) 0=a1;generalize xs.getD (k+(f+2)) 0=a2;generalize xs.getD (k+(f+3)) 0=a3;simp only[Nat.add_mul,Nat.mul_assoc,Nat.reducePow];simp only[Nat.mul_comm F];omega
theorem Pos.de {xs:List Nat} {k len:Nat} {s:BR} {n R:Nat} (h:Pos xs k len s n R) (hb:Bytes xs) (ho:32≤s.rd→4≤s.off):Pos xs k len (s.de xs k) n R∧(s.de xs k).rd≤32:=by
  unfold BR.de;split
  · exact⟨h,Om⟩
  · exact⟨h.gI hb Om (ho Om),by have:=h.rd;simp[BR.gI];omega⟩
theorem Pos.fill {t:Nat} {xs:List Nat} {k len:Nat} {s:BR} {n R:Nat} (h:Pos xs k len s n R) (hb:Bytes xs) (ht:4≤t) (h8:32≤s.rd→s.off<t→8*s.off≤s.rd):Pos xs k len (BR.fill t xs k s) n R∧((BR.fill t xs k s).rd≤32∨(BR.fill t xs k s).off=0):=by
  unfold BR.fill;split
  · exact⟨h,Om⟩
  · split
    · exact⟨h.gI hb Om Om,by have:=h.rd;simp[BR.gI];omega⟩
    · exact⟨h.loads hb _ (h8 Om Om) (Nat.le_refl _),.inr (by rw[BR.kT];omega)⟩
theorem Pos.top {xs:List Nat} {k len:Nat} {s:BR} {n R L:Nat} (h:Pos xs k len s n R) (hb:Bytes xs) (hL:L≤64) (hr:s.rd+L≤64∨s.off=0):s.val/2^(64-L)=R*2^L/2^n:=by
  obtain⟨q,hv,hq,hR⟩:=h.dv;have lY:=h.rd;have ht:=iQ hb k s.off;have pos:∀m:Nat,0<2^m:=fun m=>Nat.pow_pos Om
  rcases Nat.lt_or_ge 64 (s.rd+L) with fg|hle
  · have h0:s.off=0:=Om;rw[h0] at hR ht;simp[tailV] at hR;have hn:n=64-s.rd:=by rw[h.n,h0];omega
    obtain⟨e,he⟩:∃e,s.rd=(64-L)+e:=⟨s.rd+L-64,Om⟩;rw[hv,hR,hn,he,Nat.pow_add, ←Nat.mul_assoc,Nat.mul_right_comm,Nat.mul_div_cancel _ (pos _)];have PU:(2:Nat)^L=2^e*2^(64-(64-L+e)):=by rw[←Nat.pow_add];congr 1;omega
    rw[PU, ←Nat.mul_assoc,Nat.mul_div_cancel _ (pos _)]
  · obtain⟨e,he⟩:∃e,64-L=s.rd+e:=⟨64-L-s.rd,Om⟩;have hn:n=(8*s.off+e)+L:=by rw[h.n];omega
    rw[hv,he,hn,Nat.pow_add,Nat.pow_add,Nat.mul_div_mul_right _ _ (pos _), ←Nat.div_div_eq_div_mul,Nat.mul_div_cancel _ (pos _),hR,Nat.pow_add, ←Nat.div_div_eq_div_mul,Nat.add_comm,Nat.add_mul_div_right _ _ (pos _),Nat.div_eq_of_lt ht,Nat.zero_add]
def tN (cd:Nat→Nat × Nat):List Nat→Nat
  |[]=>0
  |c::t=>(cd c).1+tN cd t
def tR (cd:Nat→Nat × Nat):List Nat→Nat
  |[]=>0
  |c::t=>(cd c).2*2^tN cd t+tR cd t
structure Cf (dt:List Nat) (L:Nat) (cd:Nat→Nat × Nat) (S:Nat→Prop):Prop where
  L1:1≤L
  L16:L≤11
  one:∀c,S c→c<256∧1≤(cd c).1∧(cd c).1≤L∧(cd c).2<2^(cd c).1
  at_:∀c,S c→∀v,v<2^L→v/2^(L-(cd c).1)=(cd c).2→dt.getD v 0=(cd c).1+256*c
structure dV (xs:List Nat) (k len:Nat) (cd:Nat→Nat × Nat) (S:Nat→Prop) (s:BR) (t:List Nat):Prop where
  pos:Pos xs k len s (tN cd t) (tR cd t)
  all:∀c ∈ t,S c
theorem TM {dt:List Nat} {L:Nat} {cd:Nat→Nat × Nat} {S:Nat→Prop} (h:Cf dt L cd S):∀t:List Nat,(∀c ∈ t,S c)→tN cd t≤L*t.length∧t.length≤tN cd t
  |[],_=>by simp[tN]
  |c::t,ha=>by
    have:=TM h t (fun x hx=>ha x (List.mem_cons_of_mem _ hx));have:=h.one c (ha c List.mem_cons_self);simp only[tN,List.length_cons,Nat.mul_add];omega
theorem GH {dt:List Nat} {L:Nat} {cd:Nat→Nat × Nat} {S:Nat→Prop} (h:Cf dt L cd S):∀t:List Nat,(∀c ∈ t,S c)→tR cd t<2^tN cd t
  |[],_=>by simp[tN,tR]
  |c::t,ha=>by
    have h1:=GH h t (fun x hx=>ha x (List.mem_cons_of_mem _ hx));have h2:=(h.one c (ha c List.mem_cons_self)).2.2.2;have h3:(cd c).2*2^tN cd t≤(2^(cd c).1-1)*2^tN cd t:=Nat.mul_le_mul_right _ Om;rw[Nat.sub_mul,Nat.one_mul, ←Nat.pow_add] at h3;have:2^tN cd t≤2^((cd c).1+tN cd t):=Nat.pow_le_pow_right Om Om;simp only[tN,tR];omega
section
variable {xs dt:List Nat} {k len L:Nat} {cd:Nat→Nat × Nat} {S:Nat→Prop} {s:BR} {t:List Nat}
theorem dV.look (h:dV xs k len cd S s t) (hT:Cf dt L cd S) (hb:Bytes xs) (ht:0<t.length) (hr:s.rd+L≤64∨s.off=0):
    dt.getD (s.val/2^(64-L)) 0=(cd (t.getD 0 0)).1+256*t.getD 0 0∧s.val/2^(64-L)<2^L:=by
  cases t with
  |nil=>simp at ht
  |cons c t=>
    have hc:=h.all c List.mem_cons_self;obtain⟨CD,h1,hl,h2⟩:=hT.one c hc;have hL:=hT.L16;have pos:∀m:Nat,0<2^m:=fun m=>Nat.pow_pos Om
    have htR:=GH hT t (fun x hx=>h.all x (List.mem_cons_of_mem _ hx));have fg:s.val/2^(64-L)<2^L:=by
      rw[Nat.div_lt_iff_lt_mul (pos _), ←Nat.pow_add,show L+(64-L)=64 by omega];exact h.pos.ok.val
    refine⟨hT.at_ c hc _ fg ?_,fg⟩;rw[h.pos.top hb Om hr];show((cd c).2*2^tN cd t+tR cd t)*2^L/2^((cd c).1+tN cd t)/2^(L-(cd c).1)=_;rw[Nat.div_div_eq_div_mul, ←Nat.pow_add,show(cd c).1+tN cd t+(L-(cd c).1)=tN cd t+L by omega,Nat.pow_add,Nat.mul_div_mul_right _ _ (pos _),Nat.add_comm,Nat.add_mul_div_right _ _ (pos _),Nat.div_eq_of_lt htR,Nat.zero_add]
theorem dV.next (h:dV xs k len cd S s t) (hT:Cf dt L cd S) (hb:Bytes xs) (ht:0<t.length) (hr:s.rd+L≤64∨s.off=0):
    dV xs k len cd S (s.rC (cd (t.getD 0 0)).1) (t.drop 1)∧1≤(cd (t.getD 0 0)).1∧(cd (t.getD 0 0)).1≤L∧t.getD 0 0<256∧s.rd+(cd (t.getD 0 0)).1≤64:=by
  cases t with
  |nil=>simp at ht
  |cons c t=>
    have hc:=h.all c List.mem_cons_self;obtain⟨CD,h1,hl,h2⟩:=hT.one c hc;have hL:=hT.L16;have htR:=GH hT t (fun x hx=>h.all x (List.mem_cons_of_mem _ hx));have hn:tN cd (c::t)=(cd c).1+tN cd t:=rfl;have lY:s.rd+(cd c).1≤64:=by
      rcases hr with h'|h'
      · omega
      · have:=h.pos.n;rw[hn,h'] at this;omega
    have ha:=h.pos.rC hb (m:=(cd c).1) Om lY;refine⟨⟨?_,fun x hx=>h.all x (List.mem_cons_of_mem _ (by simpa using hx))⟩,h1,hl,CD,lY⟩;rw[hn,show(cd c).1+tN cd t-(cd c).1=tN cd t by omega] at ha;show Pos xs k len (s.rC (cd c).1) (tN cd t) (tR cd t);have:tR cd (c::t)%2^tN cd t=tR cd t:=by
      show((cd c).2*2^tN cd t+tR cd t)%_=_;rw[Nat.mul_comm,Nat.mul_add_mod,Nat.mod_eq_of_lt htR]
    rwa [this] at ha
end
section
variable {P:Program} {K:Kx} {Q:Exit→Act→World→Prop} {ρ:ba} {l r p rest:List aU} {o:Oper} {v:Value} {x y z:Operand} {t s f sz n m c lo hi len cap b q j d:Nat} {k k':IntKind}
theorem G.pick {cd:Code} (is:List Nat) (hp:pickS is l=some (p,rest)) (h:G P K Q cd ρ p r):G P K Q cd ρ l r:=fun a w ha=>h a w (ha.pick is hp)
theorem GQ.pick {e:Exit} (is:List Nat) (hp:pickS is l=some (p,rest)) (h:GQ K Q e ρ p r):GQ K Q e ρ l r:=fun a w ha=>h a w (ha.pick is hp)
theorem G.gN {x:Code} (M:ba→List aU→Prop) (h:G P K (Exit.then (fun a w=>∃ρ l,M ρ l∧At K ρ l r a w) Q) x ρ l r) (k:∀ρ l,M ρ l→GQ K Q .normal ρ l r):G P K Q x ρ l r:=by
  refine fun a w ha=>wp_mono (h a w ha) ?_
  intro e a' w' hq;cases e with
  |normal=>obtain⟨ρ',l',hM,hA⟩:=hq;exact k ρ' l' hM a' w' hA
  |_=>exact hq
def jt (i:Value) (s:BR):List Value:=[i,.int .u64 ((s.off:Nat):Int),.int .u64 ((s.val:Nat):Int),.int .u8 ((s.rd:Nat):Int)]
theorem bI.bD {f:FuncId} {args:List Value} {u iv:Value} {b o:Nat} {sh:Option (TypeId × Nat)} {s0:BR} (R:BR→Prop) (h:bI P f args l r (fun v l'=>v=u∧l'=[⟨b,o,jt iv s0,sh⟩])) (hR:R s0):
    bI P f args l r (fun v l'=>v=u∧∃s',R s'∧l'=[⟨b,o,jt iv s',sh⟩]):=h.mono fun v l' ⟨h1,h2⟩=>⟨h1,s0,hR,h2⟩
theorem ik {m k:Nat} (h:m<2^k):m&&&(2^k-1)=m:=by rw[Nat.and_two_pow_sub_one_eq_mod,Nat.mod_eq_of_lt h]
theorem aK {u:Value} (h:bB P ρ o u) (e:u=v):bB P ρ o v:=e▸h
theorem Ra (s:BR) (L:Nat) (h1:1≤L) (h:L≤16) (hv:s.val<18446744073709551616):s.VK L=s.val/2^(64-L):=by
  unfold BR.VK;rw[show(64-L)&&&63=64-L by rw[show(63:Nat)=2^6-1 from rfl,Nat.and_two_pow_sub_one_eq_mod];exact Nat.mod_eq_of_lt Om];apply Nat.mod_eq_of_lt;rw[Nat.div_lt_iff_lt_mul (Nat.pow_pos Om)];have:(65536:Nat)*2^(64-L)=2^(80-L):=by rw[show(65536:Nat)=2^16 from rfl, ←Nat.pow_add];congr 1;omega
  rw[this];exact Nat.lt_of_lt_of_le hv (Nat.pow_le_pow_right (n:=2) Om (show 64≤80-L by omega))
theorem Rb {T T':TypeId} {zv:Value} (ho:o.op=.typeAssert x T T' true) (hx:ev ρ x=some .nilIface) (hz:(P.info? T').bind (·.zero)=some zv) (hT:(match P.underlying T' with|some (.pointer _)=>true|_=>false)=true):bB P ρ o (.tuple #[zv,.bool false]):=fun ac ha w=>by
  cases hu:P.underlying T' with
  |none=>simp[hu] at hT
  |some D=>
    cases D<;>simp[hu] at hT;cases hi:P.info? T' with
    |none=>simp[hi] at hz
    |some i=>
      simp[hi] at hz;simp[execOp,ho,bU ha hx,Instr.typeAssert,br hu,zeroValue,ly hi,hz]
theorem alO {cs:List Value} (ho:o.op=.build t #[]) (hz:gk P t=some cs) (hu:(match P.underlying t with|some (.array _ e)=>(cY P e).isSome|_=>false)=true):bB P ρ o (.agg cs.toArray):=fun ac ha w=>by
  unfold gk at hz;cases hi:P.info? t with
  |none=>simp[hi] at hz
  |some i=>
    cases vc:i.zero with
    |none=>simp[hi,vc] at hz
    |some zv=>
      simp[hi,vc] at hz;have A0:zv.cells=cs.toArray:=by apply Array.toList_inj.1;simpa using hz
      cases hu':P.underlying t with
      |none=>simp[hu'] at hu
      |some D=>
        cases D<;>simp[hu'] at hu;rename_i n e;obtain⟨sz,hs⟩:=Option.isSome_iff_exists.1 hu;simp[execOp,ho,Instr.build,zeroValue,ly hi,vc,br hu',du hs,Instr.fill,A0]
theorem Kw {d:Nat} {cs:List Value} (ho:o.op=.box t x) (hx:ev ρ x=some (.agg cs.toArray)) (hd:o.dst=some d) (hn:Nat.blt d K.n=true):
    oL P K ρ l r o (fun ρ' l'=>∃b,ρ'=(d,.pointer (some ⟨b,0,none⟩))::ρ∧l'=⟨b,0,cs,some (t,cs.length)⟩::l):=
  kM ho hx rfl hd hn
end
theorem aC {k:IntKind} {xs:List Nat} {j e:Nat} (h:j<xs.length) (he:xs.getD j 0=e):((aa k xs).drop j).take 1=[.int k ((e:Nat):Int)]:=he▸EE h
theorem cl {s:BR} {n:Nat} (h:s.rd+n≤64):(s.rC n).rd=s.rd+n:=by simp[BR.rC];omega
theorem dV.get {xs dt:List Nat} {k len L:Nat} {cd:Nat→Nat × Nat} {S:Nat→Prop} {s:BR} {c:Nat} {t:List Nat} (h:dV xs k len cd S s (c::t)) (hT:Cf dt L cd S) (hb:Bytes xs) (hr:s.rd+L≤64∨s.off=0):
    ∃n p,s.val/2^(64-L)=p∧dt.getD p 0=n+256*c∧p<2^L∧c<256∧1≤n∧n≤L∧s.rd+n≤64∧tN cd (c::t)=n+tN cd t∧dV xs k len cd S (s.rC n) t:=by
  obtain⟨h1,h2⟩:=h.look hT hb Oi hr;obtain⟨h3,h4,h5,h6,h7⟩:=h.next hT hb Oi hr;exact⟨(cd c).1,_,rfl,h1,h2,h6,h4,h5,h7,rfl,h3⟩
theorem lZ {t:List Nat} (h:4≤t.length):∃c1 c2 c3 c4 t',t=c1::c2::c3::c4::t':=by
  match t,h with
  |c1::c2::c3::c4::t',_=>exact⟨c1,c2,c3,c4,t',rfl⟩
theorem EG {t:List Nat} (h:0<t.length):∃c t',t=c::t':=by
  match t,h with
  |c::t',_=>exact⟨c,t',rfl⟩
theorem kU {dt:List Nat} {L B:Nat} {cd:Nat→Nat × Nat} {S:Nat→Prop} (h:Cf dt L cd S) (hB:L≤B) {t:List Nat} (ha:∀c ∈ t,S c):tN cd t≤B*t.length∧t.length≤tN cd t:=by
  have h1:=TM h t ha;exact⟨Nat.le_trans h1.1 (Nat.mul_le_mul_right _ hB),h1.2⟩
theorem tE {ys B:List Nat} {n c:Nat} (h:ys.take n=B) (hn:n<ys.length):(ys.set n c).take (n+1)=B++[c]:=by
  rw[List.take_succ_eq_append_getElem (by simpa using hn),List.take_set_of_le (Nat.le_refl n),h];simp
theorem xO {ys B:List Nat} {n c1 c2 c3 c4:Nat} (h:ys.take n=B) (hn:n+4≤ys.length):((((ys.set (n+0) c1).set (n+1) c2).set (n+2) c3).set (n+3) c4).take (n+4)=B++[c1,c2,c3,c4]:=by
  have h1:=tE (c:=c1) h Om;have h2:=tE (c:=c2) h1 Oz;have h3:=tE (c:=c3) h2 Oz;have h4:=tE (c:=c4) h3 Oz;simpa using h4
theorem iu {p:Option Addr} {a a' b b':Nat} (h1:a=a') (h2:b=b'):Value.slice p a b=Value.slice p a' b':=by rw[h1,h2]
theorem vg:Array.range 1= #[0]:=by decide
theorem vh:Array.range 2= #[0,1]:=by decide
theorem vi:Array.range 3= #[0,1,2]:=by decide
theorem A2 {L m:Nat} (h:L≤m):2^L≤2^m:=Nat.pow_le_pow_right Om h
theorem dV.de {xs:List Nat} {k len:Nat} {cd:Nat→Nat × Nat} {S:Nat→Prop} {s:BR} {t:List Nat} (h:dV xs k len cd S s t) (hb:Bytes xs) (ho:32≤s.rd→4≤s.off):
    dV xs k len cd S (s.de xs k) t∧(s.de xs k).rd≤32∧s.off≤(s.de xs k).off+4∧(s.de xs k).off≤s.off:=by
  obtain⟨h1,h2⟩:=h.pos.de hb ho;refine⟨⟨h1,h.all⟩,h2,?_,?_⟩<;>(unfold BR.de;split<;>simp[BR.gI]<;>omega)
theorem dV.fill {xs:List Nat} {k len T:Nat} {cd:Nat→Nat × Nat} {S:Nat→Prop} {s:BR} {t:List Nat} (h:dV xs k len cd S s t) (hb:Bytes xs) (hT:4≤T) (h8:32≤s.rd→s.off<T→8*s.off≤s.rd):
    dV xs k len cd S (BR.fill T xs k s) t∧((BR.fill T xs k s).rd≤32∨(BR.fill T xs k s).off=0)∧(BR.fill T xs k s).off≤s.off:=by
  obtain⟨h1,h2⟩:=h.pos.fill hb hT h8;refine⟨⟨h1,h.all⟩,h2,?_⟩;unfold BR.fill;split
  · omega
  · split
    · simp[BR.gI]
    · rw[BR.kT];omega
theorem dV.gv {xs:List Nat} {k len:Nat} {cd:Nat→Nat × Nat} {S:Nat→Prop} {s:BR} {t:List Nat} (h:dV xs k len cd S s t) (hb:Bytes xs) (hr:8≤s.rd) (ho:0<s.off):dV xs k len cd S (s.gv xs k) t:=⟨h.pos.gv hb hr ho,h.all⟩
theorem Ky (v L:Nat) (h:L≤8) (hv:v<18446744073709551616):v/2^56%256/2^(8-L)=v/2^(64-L):=by
  rw[Nat.mod_eq_of_lt Om,Nat.div_div_eq_div_mul, ←Nat.pow_add];congr 2;omega
theorem dV.left {xs:List Nat} {k len:Nat} {cd:Nat→Nat × Nat} {S:Nat→Prop} {s:BR} {t:List Nat} (h:dV xs k len cd S s t):tN cd t=8*s.off+(64-s.rd)∧s.rd≤64∧s.off≤len:=⟨h.pos.n,h.pos.rd,h.pos.ok.off⟩
structure Rd (q:Option Addr) (n sz:Nat) (row:List Value) (s:aU) (j:Nat):Prop where
  len:row.length=n*sz
  ad:0<n→q=some ⟨s.b,s.o+j,none⟩
  cs:(s.cs.drop j).take row.length=row
theorem Rd.get {q:Option Addr} {n sz:Nat} {row:List Value} {s:aU} {j i:Nat} (h:Rd q n sz row s j) (hi:i<row.length):s.cs[j+i]? =row[i]? :=by
  have h1:=congrArg (fun l:List Value=>l[i]?) h.cs;simp only[List.getElem?_take,if_pos hi,List.getElem?_drop] at h1;exact h1
theorem Rd.CE {q:Option Addr} {n:Nat} {k:IntKind} {xs:List Nat} {s:aU} {j i:Nat} (h:Rd q n 1 (aa k xs) s j) (hi:i<n):s.cs[j+i]? =some (.int k ((xs.getD i 0:Nat):Int)):=by
  have hl:xs.length=n:=by have:=h.len;simpa using this
  rw[h.get Oz,af Om]
theorem Rd.rh {q:Option Addr} {n:Nat} {k:IntKind} {xs:List Nat} {s:aU} {j:Nat} (h:Rd q n 1 (aa k xs) s j):xs.length=n:=by have:=h.len;simpa using this
theorem Rd.alP {q:Option Addr} {b o n sz cap:Nat} {cs row:List Value} {sh:Option (TypeId × Nat)} (hg:GS q b o cs sz cap) (hn:n≤cap) (hp:cs.take (n*sz)=row):Rd q n sz row ⟨b,o,cs,sh⟩ 0:=by
  have hle:n*sz≤cap*sz:=Nat.mul_le_mul_right _ hn;have hl:row.length=n*sz:=by rw[←hp,List.length_take,hg.len];omega
  refine⟨hl,fun h0=>by have:=hg.bD Om;simpa using this,?_⟩;rw[hl,List.drop_zero];exact hp
theorem Rd.tF {q:Option Addr} {b o n cap:Nat} {k:IntKind} {cs:List Value} {xs:List Nat} {sh:Option (TypeId × Nat)} (hg:GS q b o cs 1 cap) (hn:n≤cap) (hp:cs.take n=aa k xs):Rd q n 1 (aa k xs) ⟨b,o,cs,sh⟩ 0:=Rd.alP hg hn (by rw[Nat.mul_one];exact hp)
theorem Rd.Vw {b o a n j:Nat} {k:IntKind} {xs ys:List Nat} {sh:Option (TypeId × Nat)} (hj:a=o+j) (hy:(xs.drop j).take n=ys) (hn:j+n≤xs.length):Rd (some ⟨b,a,none⟩) n 1 (aa k ys) ⟨b,o,aa k xs,sh⟩ j:=by
  subst hj;subst hy;refine⟨Oz,fun _=>rfl,ga _ _ _⟩
theorem Rd.nil {row:List Value} {s:aU} {sz:Nat} (h:row=[]):Rd none 0 sz row s 0:=by
  subst h;exact⟨Oi,fun h=>Om,Oi⟩
theorem Rd.cut {q q':Option Addr} {n m lo sz:Nat} {row Rc:List Value} {s:aU} {j:Nat} (h:Rd q n sz row s j) (hm:lo+m≤n) (hr:(row.drop (lo*sz)).take (m*sz)=Rc) (hq:0<m→q'=some ⟨s.b,s.o+(j+lo*sz),none⟩):Rd q' m sz Rc s (j+lo*sz):=by
  have hle:lo*sz+m*sz≤n*sz:=by rw[←Nat.add_mul];exact Nat.mul_le_mul_right _ hm
  have hl:Rc.length=m*sz:=by rw[←hr,List.length_take,List.length_drop,h.len];omega
  refine⟨hl,hq,?_⟩;rw[hl, ←hr];have h1:=h.cs;rw[h.len] at h1;rw[←h1,List.drop_take,List.take_take,List.drop_drop];congr 1;omega
theorem Rd.front {q:Option Addr} {n hi:Nat} {k:IntKind} {xs:List Nat} {s:aU} {j:Nat} (h:Rd q n 1 (aa k xs) s j) (hm:hi≤n):Rd q hi 1 (aa k (xs.take hi)) s j:=by
  have h1:=h.len;have:=h.cut (lo:=0) (m:=hi) (Rc:=aa k (xs.take hi)) (q':=q) Om (by simp[aa,List.map_take]) (fun h0=>by rw[Nat.zero_mul,Nat.add_zero];exact h.ad Om);rwa [Nat.zero_mul,Nat.add_zero] at this
theorem Kz {cs:List Value} {n hi:Nat} {k:IntKind} {xs:List Nat} (h:cs.take n=aa k xs) (hh:hi≤n):cs.take hi=aa k (xs.take hi):=by
  have:=congrArg (fun l:List Value=>l.take hi) h;simpa [List.take_take,Nat.min_eq_left hh,aa,List.map_take] using this
theorem Src.adE {l r:List aU} {q:Option Addr} {n sz:Nat} {row:List Value} {s:aU} {j:Nat} (i:Nat) (hs:nthS i (l++r)=some s) (h:Rd q n sz row s j):Src l r q row:=by
  rcases Nat.eq_zero_or_pos n with h0|h0
  · left;have:=h.len;rw[h0,Nat.zero_mul] at this;exact List.eq_nil_of_length_eq_zero this
  · exact .inr ⟨s,ed _ _ _ hs,j,h.ad h0,h.cs⟩
section
variable {P:Program} {K:Kx} {Q:Exit→Act→World→Prop} {ρ:ba} {l r:List aU} {o:Oper} {v:Value} {x y z:Operand} {t s f sz n m lo hi len cap b q j:Nat} {k k':IntKind} {p:Option Addr}
theorem py {q':Nat} (ho:o.op=.indexAddr t x y) (hx:ev ρ x=some (.slice p len cap)) (hy:ev ρ y=some (.int k (m:Nat))) (hP:cy P t=some sz) (h:m<len) (hp:p=some ⟨b,q,none⟩) (hq:q+m*sz=q'):bB P ρ o (.pointer (some ⟨b,q',none⟩)):=by
  subst hp;exact eQ ho hx hy hP h hq
def je (p:Option Addr) (lo sz cap:Nat):Option Addr:=p.bind fun a=>some (if cap=lo then a else a.add (lo*sz))
theorem kV {b q lo sz cap q':Nat} {p:Option Addr} (hp:p=some ⟨b,q,none⟩) (h:lo<cap) (hq:q+lo*sz=q'):je p lo sz cap=some ⟨b,q',none⟩:=by
  subst hp;subst hq;simp[je,dK,show¬cap=lo by omega]
theorem TN (ho:o.op=.slice t x (some y) (some z) none) (hx:ev ρ x=some (.slice p len cap)) (hy:ev ρ y=some (.int k (lo:Nat))) (hz:ev ρ z=some (.int k' (hi:Nat))) (hP:cy P t=some sz) (h:lo≤hi∧hi≤cap) (hp:p=none→cap=0):bB P ρ o (.slice (je p lo sz cap) (hi-lo) (cap-lo)):=by
  intro ac ha w;unfold cy at hP;cases hu:P.underlying t with
  |none=>simp[hu] at hP
  |some D=>
    cases D<;>simp[hu] at hP;cases p with
    |none=>
      have h0:=hp rfl;obtain rfl:lo=0:=Om;obtain rfl:hi=0:=Om;subst h0;simp[execOp,ho,bU ha hx,bU ha hy,bU ha hz,Instr.sliceAt,br hu,Instr.slice,Instr.sliceBounds,Instr.sliceBound,asIntOf,du hP,je]
    |some a=>simp[execOp,ho,bU ha hx,bU ha hy,bU ha hz,Instr.sliceAt,br hu,Instr.slice,Instr.sliceBounds,Instr.sliceBound,asIntOf,du hP,h.1,h.2,je];split<;>rfl
def PA (p:Option Addr) (cap:Nat):Prop:=(∃b q:Nat,p=some ⟨b,q,none⟩)∨(p=none∧cap=0)
theorem PA.pW (h:PA p cap):p=none→cap=0:=fun e=>by
  rcases h with ⟨b,q,h⟩|⟨_,h⟩
  · rw[e] at h;cases h
  · exact h
theorem A3 (ho:o.op=.slice t x none (some z) none) (hx:ev ρ x=some (.slice p len cap)) (hz:ev ρ z=some (.int k' (hi:Nat))) (hP:cy P t=some sz) (h:hi≤cap) (hp:PA p cap):bB P ρ o (.slice p hi cap):=by
  intro ac ha w;unfold cy at hP;cases hu:P.underlying t with
  |none=>simp[hu] at hP
  |some D=>
    cases D<;>simp[hu] at hP;rcases hp with ⟨b,q,rfl⟩|⟨rfl,h0⟩
    rotate_left
    · obtain rfl:hi=0:=Om;subst h0;simp[execOp,ho,bU ha hx,bU ha hz,Instr.sliceAt,br hu,Instr.slice,Instr.sliceBounds,Instr.sliceBound,asIntOf,du hP]
    · simp[execOp,ho,bU ha hx,bU ha hz,Instr.sliceAt,br hu,Instr.slice,Instr.sliceBounds,Instr.sliceBound,asIntOf,du hP,h,dK]
theorem vj (ho:o.op=.slice t x (some y) none none) (hx:ev ρ x=some (.slice p len cap)) (hy:ev ρ y=some (.int k (lo:Nat))) (hP:cy P t=some sz) (h:lo≤len∧len≤cap) (hp:p=none→cap=0):bB P ρ o (.slice (je p lo sz cap) (len-lo) (cap-lo)):=by
  intro ac ha w;unfold cy at hP;cases hu:P.underlying t with
  |none=>simp[hu] at hP
  |some D=>
    cases D<;>simp[hu] at hP;cases p with
    |none=>
      have h0:=hp rfl;subst h0;obtain rfl:len=0:=Om;obtain rfl:lo=0:=Om;simp[execOp,ho,bU ha hx,bU ha hy,Instr.sliceAt,br hu,Instr.slice,Instr.sliceBounds,Instr.sliceBound,asIntOf,du hP,je]
    |some a=>simp[execOp,ho,bU ha hx,bU ha hy,Instr.sliceAt,br hu,Instr.slice,Instr.sliceBounds,Instr.sliceBound,asIntOf,du hP,h.1,h.2,je];split<;>rfl
end
theorem GS.pa {q:Option Addr} {b o sz cap:Nat} {cs:List Value} (h:GS q b o cs sz cap):PA q cap:=by
  rcases h.ad with h'|h'
  · exact .inl ⟨_,_,h'⟩
  · exact .inr h'
theorem PA.some {b q cap:Nat}:PA (some ⟨b,q,none⟩) cap:=.inl ⟨_,_,rfl⟩
theorem PA.cut {p:Option Addr} {lo sz cap:Nat} (h:PA p cap):PA (je p lo sz cap) (cap-lo):=by
  rcases h with ⟨b,q,rfl⟩|⟨rfl,h⟩
  · left;simp only[je,Option.bind_some,dK];split
    · exact⟨_,_,rfl⟩
    · exact⟨_,_,rfl⟩
  · exact .inr ⟨rfl,Om⟩
def rows {α:Type} (f:α→List Value) (xs:List α):List Value:=xs.flatMap f
section
variable {α:Type} {f:α→List Value} {sz:Nat}
theorem bV (hf:∀x,(f x).length=sz):∀xs:List α,(rows f xs).length=xs.length*sz
  |[]=>by simp[rows]
  |x::xs=>by
    have:=bV hf xs;simp only[rows,List.flatMap_cons,List.length_append,List.length_cons,hf,Nat.add_mul,Nat.one_mul] at this ⊢;omega
theorem vk (hf:∀x,(f x).length=sz):∀(xs:List α) (i:Nat),(rows f xs).drop (i*sz)=rows f (xs.drop i)
  |xs,0=>by simp
  |[],i+1=>by simp[rows]
  |x::xs,i+1=>by
    have:=vk hf xs i;simp only[rows,List.flatMap_cons,List.drop_succ_cons] at this ⊢;rw[Nat.add_mul,Nat.one_mul,Nat.add_comm, ←List.drop_drop,List.drop_left' (hf x)];exact this
theorem zO (hf:∀x,(f x).length=sz):∀(xs:List α) (i:Nat),(rows f xs).take (i*sz)=rows f (xs.take i)
  |xs,0=>by simp[rows]
  |[],i+1=>by simp[rows]
  |x::xs,i+1=>by
    have:=zO hf xs i;simp only[rows,List.flatMap_cons,List.take_succ_cons] at this ⊢;rw[Nat.add_mul,Nat.one_mul,Nat.add_comm, ←hf x,List.take_length_add_append,hf x,this]
theorem dm (hf:∀x,(f x).length=sz) (d:α) {xs:List α} {i:Nat} (hi:i<xs.length):((rows f xs).drop (i*sz)).take sz=f (xs.getD i d):=by
  rw[vk hf,List.drop_eq_getElem_cons hi];simp only[rows,List.flatMap_cons];rw[List.take_left' (hf _)];simp[hi]
theorem tG (hf:∀x,(f x).length=sz) (d:α) {xs:List α} {i e:Nat} (hi:i<xs.length) (he:e<sz):(rows f xs)[i*sz+e]? =(f (xs.getD i d))[e]? :=by
  rw[←dm hf d hi,List.getElem?_take,if_pos he,List.getElem?_drop]
theorem KA (hf:∀x,(f x).length=sz) {xs:List α} {i:Nat} (hi:i<xs.length) (y:α):spl (rows f xs) (i*sz) (f y)=rows f (xs.set i y):=by
  have hl:i*sz+sz≤xs.length*sz:=by rw[←Nat.succ_mul];exact Nat.mul_le_mul_right _ hi
  rw[xJ _ _ _ (by rw[hf,bV hf];exact hl),hf,zO hf,show i*sz+sz=(i+1)*sz by rw[Nat.succ_mul],vk hf,List.set_eq_take_append_cons_drop,if_pos hi];simp[rows]
theorem dB (hf:∀x,(f x).length=sz) (d:α) {xs:List α} {i e:Nat} {v:Value} {y:α} (hi:i<xs.length) (he:e<sz) (h:(f (xs.getD i d)).set e v=f y):(rows f xs).set (i*sz+e) v=rows f (xs.set i y):=by
  have hl:i*sz+sz≤xs.length*sz:=by rw[←Nat.succ_mul];exact Nat.mul_le_mul_right _ hi
  rw[←KA hf hi y, ←h];rw[xJ _ _ _ (by rw[List.length_set,hf,bV hf];exact hl),List.length_set,hf];have h1:rows f xs=(rows f xs).take (i*sz)++(f (xs.getD i d)++(rows f xs).drop (i*sz+sz)):=by
    rw[←dm hf d hi, ←List.drop_drop,List.take_append_drop,List.take_append_drop]
  conv=>lhs;rw[h1]
  have ht:((rows f xs).take (i*sz)).length=i*sz:=by rw[List.length_take,bV hf];omega
  rw[List.set_append_right _ _ Om,ht,Nat.add_sub_cancel_left,List.set_append_left _ _ (by rw[hf];exact he),List.append_assoc]
end
def Re (k:IntKind) (Φ:List Nat→Prop) (v:Value) (l':List aU):Prop:=∃q b o cs cap xs n,v=.slice q n cap∧GS q b o cs 1 cap∧n≤cap∧cs.take n=aa k xs∧xs.length=n∧Φ xs∧l'=[⟨b,o,cs,none⟩]
theorem Re.mk {k:IntKind} {Φ:List Nat→Prop} {P:List Nat} {m:Nat} {q:Option Addr} {b o cap:Nat} {cs:List Value} (hg:GS q b o cs 1 cap) (hc:m≤cap) (hp:cs.take m=aa k P) (hl:P.length=m) (h:Φ P):Re k Φ (.slice q m cap) [⟨b,o,cs,none⟩]:=⟨q,b,o,cs,cap,P,m,rfl,hg,hc,hp,hl,h,rfl⟩
theorem GS.set {q:Option Addr} {b o sz cap:Nat} {cs:List Value} (h:GS q b o cs sz cap) (j:Nat) (v:Value):GS q b o (cs.set j v) sz cap:=⟨by rw[List.length_set];exact h.len,h.ad⟩
theorem GI {cs:List Value} {n j:Nat} {k:IntKind} {xs:List Nat} (h:cs.take n=aa k xs) (hj:j<n) (v:Nat):(cs.set j (.int k ((v:Nat):Int))).take n=aa k (xs.set j v):=by
  rw[List.take_set,h,xF]
def bls (xs:List Bool):List Value:=xs.map .bool
@[simp] theorem VL (xs:List Bool):(bls xs).length=xs.length:=by simp[bls]
section
variable {P:Program} {K:Kx} {Q:Exit→Act→World→Prop} {ρ:ba} {l r:List aU} {o:Oper} {v:Value} {x y z:Operand} {t e n m:Nat} {k:IntKind}
theorem eK {c:Call} {f:FuncId} {args:List Value} {lc rest rc:List aU} {ee:Value→List aU→Prop} {d:Nat} (is:List Nat) (uX:bI P f args lc rc ee) (ho:o.op=.call c) (hf:c.callee=.value (.func f)) (jZ:evs ρ c.args.toList=some args)
    (hl:pickS is l=some (lc,rest)) (Jb:∀s ∈ rc,s ∈ rest++r) (hd:o.dst=some d) (hn:Nat.blt d K.n=true):
    oL P K ρ l r o (fun ρ' l'=>∃v wB,ee v wB∧ρ'=(d,v)::ρ∧l'=wB++rest):=by
  intro a w ha nx Q px;have hA:=ha.perm (my _ _ _ _ hl);have hca:=uX.run w (hA.st.Km Jb);have kS:(c.args.map a.eval)=args.toArray:=by
    have:=pT ha.fr _ _ jZ;apply Array.toList_inj.1;simpa using this
  have e:(execOp a.eval o).run P w=.ok (.enter f args.toArray) w:=by
    simp[execOp,ho,resolve,hf,kS,Act.eval,Deferred.ofValue,invoke,oR uX.can]
  unfold Oper.wp;rw[e];simp only[Oper.upon];refine hca.mono fun e w' hE=>?_
  obtain⟨v,wB,rfl,hP,hk,jl,Cv⟩:=hE.out;simp only[hd];exact px _ _ ⟨(d,v)::ρ,wB++rest,⟨v,wB,hP,rfl,rfl⟩,(hA.u7 Jb hk jl Cv).put hn v⟩
end
section
variable {P:Program} {ρ:ba} {o:Oper} {x:Operand} {ty:TypeId} {a:Int}
end
theorem int_eq {k:IntKind} {a b:Int} (h:a=b):Value.int k a=Value.int k b:=by rw[h]
theorem gw {P:Program} {ρ:ba} {l r:List aU} {o:Oper} {u v:Value} (h:wx P ρ l r o u) (e:u=v):wx P ρ l r o v:=e▸h
def f3 (c:Nat × Nat × Nat):List Value:=[.int .i64 ((c.1:Nat):Int),.int .i64 ((c.2.1:Nat):Int),.int .i64 ((c.2.2:Nat):Int)]
section
variable {P:Program} {K:Kx} {Q:Exit→Act→World→Prop} {ρ:ba} {l r:List aU} {o:Oper} {v:Value} {x y z:Operand} {t n m cap sz d:Nat}
end
theorem kW (xs:List Nat) (k a:Nat):∀b,tailV xs k (a+b)=tailV xs k a+tailV xs (k+a) b*2^(8*a)
  |0=>by simp[tailV]
  |b+1=>by
    rw[←Nat.add_assoc];simp only[tailV,kW xs k a b,Nat.add_mul,Nat.mul_add,Nat.pow_add,Nat.add_assoc];congr 2;rw[Nat.mul_comm (2^(8*a)),Nat.mul_assoc]
theorem lA {xs ys:List Nat} {k k':Nat}:∀n,(∀i,i<n→xs.getD (k+i) 0=ys.getD (k'+i) 0)→tailV xs k n=tailV ys k' n
  |0,_=>rfl
  |n+1,h=>by
    simp only[tailV];rw[lA n (fun i hi=>h i Om),h n Om]
theorem aM {xs:List Nat} {i j v:Nat} (h:i<xs.length):(xs.set i v).getD j 0=if i=j then v else xs.getD j 0:=by
  simp only[List.getD_eq_getElem?_getD,List.getElem?_set];split
  · rename_i e;subst e;simp[h]
  · rfl
theorem vl {xs:List Nat} (h:Bytes xs) (k:Nat) {m n:Nat} (hm:m≤n):tailV xs k n%2^(8*m)=tailV xs k m:=by
  obtain⟨d,rfl⟩:∃d,n=m+d:=⟨n-m,Om⟩;rw[kW,Nat.add_mul_mod_self_right,Nat.mod_eq_of_lt (iQ h k m)]
theorem xP {xs:List Nat} (h:Bytes xs) {j n:Nat} (hj:j<n):tailV xs 0 n/2^(8*j)%256=xs.getD j 0:=by
  obtain⟨d,rfl⟩:∃d,n=(j+1)+d:=⟨n-(j+1),Om⟩;have hx:=h.at_ j;have ht:=iQ h 0 j;have p:0<2^(8*j):=Nat.pow_pos Om;rw[kW];simp only[tailV,Nat.zero_add];rw[show 8*(j+1)=8+8*j by omega,Nat.pow_add, ←Nat.mul_assoc,Nat.add_assoc, ←Nat.add_mul,Nat.add_mul_div_right _ _ p,Nat.div_eq_of_lt ht];rw[Nat.zero_add,show(2:Nat)^8=256 from rfl,Nat.add_mul_mod_self_right,Nat.mod_eq_of_lt hx]
theorem Pos.start {xs:List Nat} {k len t:Nat} (hb:Bytes xs) (ht:4≤t) (hl:1≤len):Pos xs k len (BR.start t xs k len) (8*len) (tailV xs k len)∧((BR.start t xs k len).rd≤32∨(BR.start t xs k len).off=0):=by
  unfold BR.start;split
  · rename_i h8;refine⟨⟨⟨Oi,oU hb _,Oi⟩,Oi,Oz,mW xs (k+(len-8)),Oi,by simpa using oU hb _,?_⟩,.inl Oi⟩;show tailV xs k len=mW xs (k+(len-8))*2^(8*(len-8))+tailV xs k (len-8);rw[CC hb];have:=kW xs k (len-8) 8;rw[show len-8+8=len by omega] at this;omega
  · rename_i h8;have h0:Pos xs k len ⟨len,0,64⟩ (8*len) (tailV xs k len):=⟨⟨Nat.le_refl _,Oi,Oi⟩,Oi,Oi,0,Oi,Oi,Oi⟩;obtain⟨h1,VI⟩:=h0.fill (t:=t) hb ht (fun _ _=>Oz);have hs:=BR.sn (t:=t) (xs:=xs) (k:=k) ht (show len<8 by omega);exact h1.fill hb ht (fun _ _=>hs)
theorem Pos.init {xs:List Nat} {k len t:Nat} (hb:Bytes xs) (ht:4≤t) (hl:1≤len) (h0:0<xs.getD (k+(len-1)) 0):
    Pos xs k len (BR.init t xs k len) (8*(len-1)+(av (xs.getD (k+(len-1)) 0)-1)) (tailV xs k len%2^(8*(len-1)+(av (xs.getD (k+(len-1)) 0)-1))):=by
  obtain⟨h,hr⟩:=Pos.start (t:=t) (k:=k) hb ht hl;have hx:=hb.at_ (k+(len-1));have h8:av (xs.getD (k+(len-1)) 0)≤8:=dx Om;have h1:=dT h0;have lY:(BR.start t xs k len).rd+(8-(av (xs.getD (k+(len-1)) 0)-1))≤64:=by
    rcases hr with hr|hr
    · omega
    · have:=h.n;rw[hr] at this;omega
  have:=h.rC hb (m:=8-(av (xs.getD (k+(len-1)) 0)-1)) Om lY;rw[show 8*len-(8-(av (xs.getD (k+(len-1)) 0)-1))=8*(len-1)+(av (xs.getD (k+(len-1)) 0)-1) by omega] at this;exact this
theorem zP {n r:Nat} (h:r<2^n):av (2^n+r)=n+1:=by
  have h1:=dx (n:=2^n+r) (k:=n+1) (by rw[Nat.pow_succ];omega);have h2:=jd (2^n+r);rcases Nat.lt_or_ge n (av (2^n+r)) with h|h
  · omega
  · have:=Nat.pow_le_pow_right (n:=2) Om h;omega
theorem Pos.tH {xs:List Nat} {k len t n R:Nat} (hb:Bytes xs) (ht:4≤t) (hl:len=n/8+1) (hR:R<2^n) (hv:tailV xs k len=2^n+R):
    Pos xs k len (BR.init t xs k len) n R∧0<xs.getD (k+(len-1)) 0:=by
  subst hl;simp only[tailV] at hv;rw[Nat.add_sub_cancel];have wD:=iQ hb k (n/8);generalize hx:xs.getD (k+n/8) 0=x at hv;have hp:0<2^(8*(n/8)):=Nat.pow_pos Om;have e:(2:Nat)^n=2^(n%8)*2^(8*(n/8)):=by rw[←Nat.pow_add];congr 1;omega
  have Eh:x=2^(n%8)+R/2^(8*(n/8)):=by
    have h1:x=(tailV xs k (n/8)+x*2^(8*(n/8)))/2^(8*(n/8)):=by rw[Nat.add_mul_div_right _ _ hp,Nat.div_eq_of_lt wD,Nat.zero_add]
    rw[h1,hv,e,Nat.add_comm,Nat.add_mul_div_right _ _ hp,Nat.add_comm]
  have hr8:R/2^(8*(n/8))<2^(n%8):=by rw[Nat.div_lt_iff_lt_mul hp, ←e];exact hR
  have GJ:av x=n%8+1:=by rw[Eh];exact zP hr8
  have mX:0<x:=by rw[Eh];exact Nat.lt_of_lt_of_le (Nat.pow_pos Om) (Nat.le_add_right _ _)
  have h:=Pos.init (t:=t) (k:=k) (len:=n/8+1) hb ht Om (by rw[Nat.add_sub_cancel,hx];exact mX);rw[Nat.add_sub_cancel,hx,GJ,show 8*(n/8)+(n%8+1-1)=n by omega] at h;have hm:tailV xs k (n/8+1)%2^n=R:=by
    simp only[tailV];rw[hx,hv,Nat.add_comm,Nat.add_mod_right,Nat.mod_eq_of_lt hR]
  rw[hm] at h;exact⟨h,mX⟩
def bitsV:List Nat→Nat
  |[]=>0
  |b::bs=>b*2^bs.length+bitsV bs
def pG (bs:List Nat):Prop:=∀b ∈ bs,b<2
theorem oV:∀as bs:List Nat,bitsV (as++bs)=bitsV as*2^bs.length+bitsV bs
  |[],bs=>by simp[bitsV]
  |a::as,bs=>by
    simp only[List.cons_append,bitsV,oV as bs,List.length_append,Nat.add_mul,Nat.pow_add];rw[Nat.mul_assoc];omega
def BR.lL (xs:List Nat) (k:Nat) (s:BR):BR:=⟨s.off-4,s.val*2^32%18446744073709551616|||dP xs (k+(s.off-4)),s.rd-32⟩
def BR.ku (xs:List Nat) (k:Nat) (s:BR):BR:=if s.rd<32 then s else s.lL xs k
def BR.A4 (xs:List Nat) (k:Nat) (s:BR):BR:=⟨s.off-1,s.val*2^8%18446744073709551616|||xs.getD (k+(s.off-1)) 0,s.rd-8⟩
def BR.floads (xs:List Nat) (k:Nat):Nat→BR→BR
  |0,s=>s
  |n+1,s=>(BR.floads xs k n s).A4 xs k
def BR.fL (xs:List Nat) (k:Nat) (s:BR):BR:=if s.rd<32 then s else if 4<s.off then s.lL xs k else BR.floads xs k s.off s
def BR.lM (xs:List Nat) (k len:Nat):BR:=if 8≤len then ⟨len-8,mW xs (k+(len-8)),0⟩ else BR.fL xs k (BR.fL xs k ⟨len,0,64⟩)
def BR.gJ (xs:List Nat) (k len:Nat):BR:=⟨(BR.lM xs k len).off,(BR.lM xs k len).val,((BR.lM xs k len).rd+(8-(av (xs.getD (k+(len-1)) 0)-1)))%256⟩
def BR.j4 (s:BR) (n:Nat):Nat:=s.val*2^(s.rd&&&63)%18446744073709551616/2^((64-n)&&&63)%65536
def BR.gx (s:BR) (n:Nat):BR:=⟨s.off,s.val,(s.rd+n)%256⟩
structure jf (xs:List Nat) (k len:Nat) (s:BR) (n R:Nat):Prop where
  ok:s.OK len
  rd:s.rd≤64
  n:n=8*s.off+(64-s.rd)
  R:R=s.val%2^(64-s.rd)*2^(8*s.off)+tailV xs k s.off
section
variable {xs:List Nat} {k len n R:Nat} {s:BR}
theorem jf.lt (h:jf xs k len s n R) (hb:Bytes xs):R<2^n:=by
  have ht:=iQ hb k s.off;have h1:=Nat.mod_lt s.val (Nat.pow_pos (n:=64-s.rd) (show 0<2 by omega));have h2:s.val%2^(64-s.rd)*2^(8*s.off)≤(2^(64-s.rd)-1)*2^(8*s.off):=Nat.mul_le_mul_right _ Om;rw[Nat.sub_mul,Nat.one_mul, ←Nat.pow_add] at h2;have h3:2^(8*s.off)≤2^(64-s.rd+8*s.off):=Nat.pow_le_pow_right Om Om;rw[h.R,h.n,Nat.add_comm (8*s.off)];omega
theorem KB {v x e r:Nat} (hx:x<2^e) (he:e≤r) (hr:r≤64):(v*2^e%18446744073709551616|||x)%2^(64-(r-e))=v%2^(64-r)*2^e+x:=by
  have GG:(18446744073709551616:Nat)=2^(64-e)*2^e:=by rw[←Nat.pow_add,show 64-e+e=64 by omega]
  rw[GG,Nat.mul_mod_mul_right,tD hx,show 64-(r-e)=(64-r)+e by omega,Nat.pow_add];have hd:2^(64-r)∣2^(64-e):=Nat.pow_dvd_pow 2 Om;rw[Nat.add_mod,Nat.mul_mod_mul_right,Nat.mod_mod_of_dvd _ hd];have Eh:x%(2^(64-r)*2^e)=x:=Nat.mod_eq_of_lt (Nat.lt_of_lt_of_le hx (Nat.le_mul_of_pos_left _ (Nat.pow_pos Om)));rw[Eh];refine Nat.mod_eq_of_lt ?_;have h1:=Nat.mod_lt v (Nat.pow_pos (n:=64-r) (show 0<2 by omega));have h2:v%2^(64-r)*2^e≤(2^(64-r)-1)*2^e:=Nat.mul_le_mul_right _ Om;rw[Nat.sub_mul,Nat.one_mul] at h2;have h3:2^e≤2^(64-r)*2^e:=Nat.le_mul_of_pos_left _ (Nat.pow_pos Om);omega
theorem jf.gv (h:jf xs k len s n R) (hb:Bytes xs) (hr:8≤s.rd) (ho:0<s.off):jf xs k len (s.A4 xs k) n R:=by
  have hx:=hb.at_ (k+(s.off-1));have lY:=h.rd;have mY:=h.ok.off;refine⟨⟨by show s.off-1≤len;omega,c7 (Nat.mod_lt _ Od) Om,by show s.rd-8<256;omega⟩,by show s.rd-8≤64;omega,by rw[h.n];show _=8*(s.off-1)+(64-(s.rd-8));omega,?_⟩;show R=(s.val*2^8%18446744073709551616|||xs.getD (k+(s.off-1)) 0)%2^(64-(s.rd-8))*2^(8*(s.off-1))+tailV xs k (s.off-1);rw[KB (e:=8) Om hr lY,h.R,xN ho,Nat.add_mul,Nat.mul_assoc, ←Nat.pow_add,show 8+8*(s.off-1)=8*s.off by omega];omega
theorem BR.kX:∀n,(BR.floads xs k n s).off=s.off-n
  |0=>rfl
  |n+1=>by simp[BR.floads,BR.A4,BR.kX n];omega
theorem BR.qM:∀n,(BR.floads xs k n s).rd=s.rd-8*n
  |0=>rfl
  |n+1=>by simp[BR.floads,BR.A4,BR.qM n];omega
theorem jf.loads (h:jf xs k len s n R) (hb:Bytes xs):∀m,8*m≤s.rd→m≤s.off→jf xs k len (BR.floads xs k m s) n R
  |0,_,_=>h
  |m+1,h1,h2=>by
    have ih:=jf.loads h hb m Om Om;exact ih.gv hb (by rw[BR.qM];omega) (by rw[BR.kX];omega)
theorem jf.gI (h:jf xs k len s n R) (hb:Bytes xs) (hr:32≤s.rd) (ho:4≤s.off):jf xs k len (s.lL xs k) n R:=by
  have hx:=fw hb (k+(s.off-4));have lY:=h.rd;have mY:=h.ok.off;refine⟨⟨by show s.off-4≤len;omega,c7 (Nat.mod_lt _ Od) Om,by show s.rd-32<256;omega⟩,by show s.rd-32≤64;omega,by rw[h.n];show _=8*(s.off-4)+(64-(s.rd-32));omega,?_⟩;show R=(s.val*2^32%18446744073709551616|||dP xs (k+(s.off-4)))%2^(64-(s.rd-32))*2^(8*(s.off-4))+tailV xs k (s.off-4);have ht:tailV xs k s.off=tailV xs k (s.off-4)+dP xs (k+(s.off-4))*2^(8*(s.off-4)):=by
    have:=kW xs k (s.off-4) 4;rw[show s.off-4+4=s.off by omega] at this;rw[this,xM hb];simp only[tailV,Nat.add_zero];congr 2;omega
  rw[KB (e:=32) Om hr lY,h.R,ht,Nat.add_mul,Nat.mul_assoc, ←Nat.pow_add,show 32+8*(s.off-4)=8*s.off by omega];omega
theorem jf.ku (h:jf xs k len s n R) (hb:Bytes xs) (ho:32≤s.rd→4≤s.off):jf xs k len (s.ku xs k) n R∧(s.ku xs k).rd≤32∧s.off≤(s.ku xs k).off+4∧(s.ku xs k).off≤s.off:=by
  unfold BR.ku;split
  · exact⟨h,Om,Om,Om⟩
  · exact⟨h.gI hb Om (ho Om),by have:=h.rd;simp[BR.lL];omega,by simp[BR.lL];omega,by simp[BR.lL]⟩
theorem jf.fL (h:jf xs k len s n R) (hb:Bytes xs) (h8:32≤s.rd→s.off<5→8*s.off≤s.rd):jf xs k len (BR.fL xs k s) n R∧((BR.fL xs k s).rd≤32∨(BR.fL xs k s).off=0)∧(BR.fL xs k s).off≤s.off:=by
  unfold BR.fL;split
  · exact⟨h,Om,Om⟩
  · split
    · exact⟨h.gI hb Om Om,by have:=h.rd;simp[BR.lL];omega,by simp[BR.lL]⟩
    · exact⟨h.loads hb _ (h8 Om Om) (Nat.le_refl _),.inr (by rw[BR.kX];omega),by rw[BR.kX];omega⟩
theorem jf.skip {m:Nat} (h:jf xs k len s n R) (hb:Bytes xs) (hr:s.rd+m≤64):jf xs k len (s.gx m) (n-m) (R%2^(n-m)):=by
  have lY:(s.gx m).rd=s.rd+m:=by simp[BR.gx];omega
  refine⟨⟨h.ok.off,h.ok.val,by rw[lY];omega⟩,Om,by rw[h.n,lY];show _=8*s.off+_;omega,?_⟩;rw[lY];show R%2^(n-m)=s.val%2^(64-(s.rd+m))*2^(8*s.off)+tailV xs k s.off;have hn:n-m=(64-s.rd-m)+8*s.off:=by rw[h.n];omega
  have ht:=iQ hb k s.off;rw[h.R,hn,Nat.pow_add];have e1:s.val%2^(64-s.rd)*2^(8*s.off)+tailV xs k s.off=2^(8*s.off)*(s.val%2^(64-s.rd))+tailV xs k s.off:=by rw[Nat.mul_comm]
  rw[e1,Nat.mul_comm (2^(64-s.rd-m)),Nat.mod_mul,Nat.mul_add_mod,Nat.mod_eq_of_lt ht,Nat.mul_add_div (Nat.pow_pos Om),Nat.div_eq_of_lt ht,Nat.add_zero];rw[Nat.mod_mod_of_dvd _ (Nat.pow_dvd_pow 2 Om),show 64-s.rd-m=64-(s.rd+m) by omega,Nat.mul_comm,Nat.add_comm]
theorem jf.bits {m:Nat} (h:jf xs k len s n R) (hb:Bytes xs) (hm:1≤m) (alQ:m≤16) (hr:s.rd+m≤64):s.j4 m=R/2^(n-m)∧s.j4 m<2^m:=by
  have ht:=iQ hb k s.off;have pos:∀m:Nat,0<2^m:=fun m=>Nat.pow_pos Om
  have e1:s.rd&&&63=s.rd:=by rw[show(63:Nat)=2^6-1 from rfl,Nat.and_two_pow_sub_one_eq_mod];exact Nat.mod_eq_of_lt Om
  have e2:(64-m)&&&63=64-m:=by rw[show(63:Nat)=2^6-1 from rfl,Nat.and_two_pow_sub_one_eq_mod];exact Nat.mod_eq_of_lt Om
  have GG:(18446744073709551616:Nat)=2^(64-s.rd)*2^s.rd:=by rw[←Nat.pow_add,show 64-s.rd+s.rd=64 by omega]
  have key:s.val*2^(s.rd&&&63)%18446744073709551616/2^((64-m)&&&63)=R/2^(n-m):=by
    rw[e1,e2,GG,Nat.mul_mod_mul_right,show 64-m=(64-m-s.rd)+s.rd by omega,Nat.pow_add,Nat.mul_div_mul_right _ _ (pos _)];rw[h.R,show n-m=8*s.off+(64-m-s.rd) by rw[h.n];omega,Nat.pow_add, ←Nat.div_div_eq_div_mul,Nat.add_comm,Nat.add_mul_div_right _ _ (pos _),Nat.div_eq_of_lt ht,Nat.zero_add]
  have fg:R/2^(n-m)<2^m:=by
    rw[Nat.div_lt_iff_lt_mul (pos _), ←Nat.pow_add,show m+(n-m)=n by rw[h.n];omega];exact h.lt hb
  have Ei:(2:Nat)^m≤2^16:=Nat.pow_le_pow_right Om alQ;unfold BR.j4;rw[key,Nat.mod_eq_of_lt Om];exact⟨rfl,fg⟩
theorem BR.vO (hl:len<8):8*(BR.fL xs k ⟨len,0,64⟩).off≤(BR.fL xs k ⟨len,0,64⟩).rd:=by
  unfold BR.fL;rw[if_neg Oi];split
  · simp[BR.lL];omega
  · rw[BR.kX,BR.qM];simp
theorem jf.start (hb:Bytes xs) (hl:1≤len):jf xs k len (BR.lM xs k len) (8*len) (tailV xs k len)∧((BR.lM xs k len).rd≤32∨(BR.lM xs k len).off=0):=by
  unfold BR.lM;split
  · rename_i h8;refine⟨⟨⟨Oi,oU hb _,Oi⟩,Oi,Oz,?_⟩,.inl Oi⟩;show tailV xs k len=mW xs (k+(len-8))%2^64*2^(8*(len-8))+tailV xs k (len-8);rw[Nat.mod_eq_of_lt (oU hb _),CC hb];have:=kW xs k (len-8) 8;rw[show len-8+8=len by omega] at this;omega
  · rename_i h8;have h0:jf xs k len ⟨len,0,64⟩ (8*len) (tailV xs k len):=⟨⟨Nat.le_refl _,Oi,Oi⟩,Oi,Oi,Oi⟩;obtain⟨h1,VI⟩:=h0.fL hb (fun _ _=>Oz);have hs:=BR.vO (xs:=xs) (k:=k) (show len<8 by omega);obtain⟨h2,h3,_⟩:=h1.fL hb (fun _ _=>hs);exact⟨h2,h3⟩
theorem jf.tH {n R:Nat} (hb:Bytes xs) (hl:len=n/8+1) (hR:R<2^n) (hv:tailV xs k len=2^n+R):
    jf xs k len (BR.gJ xs k len) n R∧0<xs.getD (k+(len-1)) 0∧(BR.gJ xs k len).rd≤40∨jf xs k len (BR.gJ xs k len) n R∧0<xs.getD (k+(len-1)) 0∧(BR.gJ xs k len).off=0:=by
  subst hl;obtain⟨hS,hr⟩:=jf.start (k:=k) (len:=n/8+1) hb Om;simp only[tailV] at hv;unfold BR.gJ;rw[Nat.add_sub_cancel];have wD:=iQ hb k (n/8);have hm:tailV xs k (n/8+1)%2^n=R:=by
    simp only[tailV];rw[hv,Nat.add_comm,Nat.add_mod_right,Nat.mod_eq_of_lt hR]
  generalize hx:xs.getD (k+n/8) 0=x at hv;have hp:0<2^(8*(n/8)):=Nat.pow_pos Om;have e:(2:Nat)^n=2^(n%8)*2^(8*(n/8)):=by rw[←Nat.pow_add];congr 1;omega
  have Eh:x=2^(n%8)+R/2^(8*(n/8)):=by
    have h1:x=(tailV xs k (n/8)+x*2^(8*(n/8)))/2^(8*(n/8)):=by rw[Nat.add_mul_div_right _ _ hp,Nat.div_eq_of_lt wD,Nat.zero_add]
    rw[h1,hv,e,Nat.add_comm,Nat.add_mul_div_right _ _ hp,Nat.add_comm]
  have hr8:R/2^(8*(n/8))<2^(n%8):=by rw[Nat.div_lt_iff_lt_mul hp, ←e];exact hR
  have GJ:av x=n%8+1:=by rw[Eh];exact zP hr8
  have mX:0<x:=by rw[Eh];exact Nat.lt_of_lt_of_le (Nat.pow_pos Om) (Nat.le_add_right _ _)
  rw[GJ];have lY:(BR.lM xs k (n/8+1)).rd+(8-(n%8+1-1))≤64:=by
    rcases hr with hr|hr
    · omega
    · have:=hS.n;rw[hr] at this;omega
  have hk:=hS.skip hb lY;rw[show 8*(n/8+1)-(8-(n%8+1-1))=n by omega,hm] at hk;rcases hr with hr|hr
  · exact .inl ⟨hk,mX,by show _%256≤40;omega⟩
  · exact .inr ⟨hk,mX,hr⟩
end
def flatC:Nat→List Nat→List Nat
  |_,[]=>[]
  |s,n::cs=>List.replicate n s++flatC (s+1) cs
def fk (size:Nat):Nat:=size/2+size/8+3
def place (size:Nat):List Nat→Nat→List Nat→List Nat
  |[],_,cells=>cells
  |s::t,p,cells=>place size t ((p+fk size)%size) (cells.set p s)
abbrev Cell:=Nat × Nat × Nat
def CF (log s k:Nat):Cell:=(s,log-(av k-1),k*2^(log-(av k-1))-2^log)
def buildD (log:Nat):List Nat→List Nat→List Cell
  |[],_=>[]
  |s::t,nx=>CF log s (nx.getD s 0)::buildD log t (nx.set s (nx.getD s 0+1))
theorem rD (log:Nat):∀(t nx:List Nat),(buildD log t nx).length=t.length
  |[],_=>rfl
  |s::t,nx=>by simp[buildD,rD log t]
theorem vm:∀(cs:List Nat) (s:Nat),(flatC s cs).length=cs.sum
  |[],_=>rfl
  |n::cs,s=>by simp[flatC,vm cs]
theorem pX:∀(cs:List Nat) (s x:Nat),(flatC s cs).count x=if s≤x then cs.getD (x-s) 0 else 0
  |[],s,x=>by simp[flatC]
  |n::cs,s,x=>by
    have hc:(List.replicate n s).count x=if s=x then n else 0:=by rw[List.count_replicate];by_cases e:s=x<;>simp[e]
    rw[flatC,List.count_append,hc,pX cs (s+1) x];rcases Nat.lt_trichotomy s x with h|h|h
    · rw[if_neg (show¬s=x by omega),if_pos (show s+1≤x by omega),if_pos (show s≤x by omega),show x-s=(x-(s+1))+1 by omega,List.getD_cons_succ,Nat.zero_add]
    · subst h;rw[if_pos rfl,if_neg (show¬s+1≤s by omega),if_pos (Nat.le_refl _),Nat.sub_self];rfl
    · rw[if_neg (show¬s=x by omega),if_neg (show¬s+1≤x by omega),if_neg (show¬s≤x by omega)]
theorem sq (log:Nat):∀(t nx:List Nat) (u:Nat),u<t.length→(∀s ∈ t,s<nx.length)→(buildD log t nx).getD u (0,0,0)=CF log (t.getD u 0) (nx.getD (t.getD u 0) 0+(t.take u).count (t.getD u 0))
  |[],nx,u,h,_=>by simp at h
  |s::t,nx,0,h,hs=>by simp[buildD]
  |s::t,nx,u+1,h,hs=>by
    have hu:u<t.length:=by simpa using h
    simp only[buildD,List.getD_cons_succ,List.take_succ_cons];rw[sq log t _ u hu (fun x hx=>by simp;exact hs x (List.mem_cons_of_mem _ hx))];rw[aM (hs s List.mem_cons_self),List.count_cons];by_cases e:s=t.getD u 0
    · rw[if_pos e,if_pos (by simpa using e),e];congr 1;omega
    · rw[if_neg e,if_neg (by simpa using e),Nat.add_zero]
theorem KC {log k n:Nat} (h1:1≤k) (h:k+1≤2*n) (hn:2*n<2^log):1≤log-(av k-1):=by
  have:=dx (n:=k) (k:=log) Om;have:=dT (show 0<k by omega);omega
def fN (T:List Cell):List Nat→Nat
  |a::b::c::r=>(T.getD a (0,0,0)).2.1+fN T (b::c::r)
  |_=>0
def fR (T:List Cell):List Nat→Nat
  |a::b::c::r=>(c-(T.getD a (0,0,0)).2.2)*2^fN T (b::c::r)+fR T (b::c::r)
  |_=>0
structure mZ (log:Nat) (T:List Cell) (text at_:List Nat):Prop where
  len:at_.length=text.length
  two:2≤text.length
  lt:∀a ∈ at_,a<2^log
  sym:∀i,i<text.length→(T.getD (at_.getD i 0) (0,0,0)).1=text.getD i 0
  step:∀i,i+2<text.length→(T.getD (at_.getD i 0) (0,0,0)).2.2≤at_.getD (i+2) 0∧at_.getD (i+2) 0<(T.getD (at_.getD i 0) (0,0,0)).2.2+2^(T.getD (at_.getD i 0) (0,0,0)).2.1
theorem tI {T:List Cell} {at_:List Nat} {i:Nat} (h:i+2<at_.length):fN T (at_.drop i)=(T.getD (at_.getD i 0) (0,0,0)).2.1+fN T (at_.drop (i+1))∧
    fR T (at_.drop i)=(at_.getD (i+2) 0-(T.getD (at_.getD i 0) (0,0,0)).2.2)*2^fN T (at_.drop (i+1))+fR T (at_.drop (i+1)):=by
  rw[List.drop_eq_getElem_cons (show i<at_.length by omega),List.drop_eq_getElem_cons (show i+1<at_.length by omega),List.drop_eq_getElem_cons (show i+1+1<at_.length by omega)];simp only[fN,fR];simp[List.getD_eq_getElem?_getD,show i<at_.length by omega,h]
theorem sr {T:List Cell} {at_:List Nat} {i:Nat} (h:at_.length≤i+2):fN T (at_.drop i)=0∧fR T (at_.drop i)=0:=by
  have:(at_.drop i).length≤2:=by simp;omega
  match hl:at_.drop i,this with
  |[],_=>exact⟨rfl,rfl⟩
  |[a],_=>exact⟨rfl,rfl⟩
  |[a,b],_=>exact⟨rfl,rfl⟩
  |a::b::c::r,h'=>simp at h'
theorem mZ.lt_ {log:Nat} {T:List Cell} {text at_:List Nat} (h:mZ log T text at_):∀d i,at_.length-i=d→fR T (at_.drop i)<2^fN T (at_.drop i)
  |0,i,hd=>by have:=sr (T:=T) (at_:=at_) (i:=i) Om;rw[this.1,this.2];decide
  |d+1,i,hd=>by
    rcases Nat.lt_or_ge (i+2) at_.length with hi|hi
    · obtain⟨e1,e2⟩:=tI (T:=T) hi;have ih:=mZ.lt_ h d (i+1) Om;have hs:=h.step i (by rw[←h.len];exact hi);rw[e1,e2,Nat.pow_add];have:(at_.getD (i+2) 0-(T.getD (at_.getD i 0) (0,0,0)).2.2)*2^fN T (at_.drop (i+1))≤(2^(T.getD (at_.getD i 0) (0,0,0)).2.1-1)*2^fN T (at_.drop (i+1)):=Nat.mul_le_mul_right _ Om;rw[Nat.sub_mul (2^_) 1,Nat.one_mul] at this;have h2:2^fN T (at_.drop (i+1))≤2^(T.getD (at_.getD i 0) (0,0,0)).2.1*2^fN T (at_.drop (i+1)):=Nat.le_mul_of_pos_left _ (Nat.pow_pos Om);omega
    · have:=sr (T:=T) hi;rw[this.1,this.2];decide
structure kv (xs:List Nat) (k len:Nat) (T:List Cell) (at_:List Nat) (i:Nat) (s:BR):Prop where
  pos:jf xs k len s (fN T (at_.drop i)) (fR T (at_.drop i))
theorem kv.bits {xs:List Nat} {k len log i:Nat} {T:List Cell} {text at_:List Nat} {s:BR} (h:kv xs k len T at_ i s) (hT:mZ log T text at_) (hb:Bytes xs) (hi:i+2<text.length) (alR:(T.getD (at_.getD i 0) (0,0,0)).2.1≤16) (h1:1≤(T.getD (at_.getD i 0) (0,0,0)).2.1)
    (hr:s.rd+(T.getD (at_.getD i 0) (0,0,0)).2.1≤64∨s.off=0):
    s.rd+(T.getD (at_.getD i 0) (0,0,0)).2.1≤64∧(T.getD (at_.getD i 0) (0,0,0)).2.2+s.j4 (T.getD (at_.getD i 0) (0,0,0)).2.1=at_.getD (i+2) 0∧kv xs k len T at_ (i+1) (s.gx (T.getD (at_.getD i 0) (0,0,0)).2.1):=by
  have hi':i+2<at_.length:=by rw[hT.len];exact hi
  obtain⟨e1,e2⟩:=tI (T:=T) hi';have fg:=mZ.lt_ hT _ (i+1) rfl;have hs:=hT.step i hi;have hr':s.rd+(T.getD (at_.getD i 0) (0,0,0)).2.1≤64:=by
    rcases hr with h'|h'
    · exact h'
    · have:=h.pos.n;rw[e1,h'] at this;omega
  obtain⟨hv,_⟩:=h.pos.bits hb h1 alR hr';have hk:=h.pos.skip hb hr';generalize hn:(T.getD (at_.getD i 0) (0,0,0)).2.1=m at*;generalize (T.getD (at_.getD i 0) (0,0,0)).2.2=b at*;have pos:0<2^fN T (at_.drop (i+1)):=Nat.pow_pos Om;rw[e1,e2,Nat.add_sub_cancel_left] at hv;rw[Nat.add_comm (_*_),Nat.add_mul_div_right _ _ pos,Nat.div_eq_of_lt fg,Nat.zero_add] at hv;rw[e1,e2,Nat.add_sub_cancel_left,Nat.add_comm (_*_),Nat.add_mul_mod_self_right,Nat.mod_eq_of_lt fg] at hk;exact⟨hr',Om,⟨hk⟩⟩
def fU (v n:Nat):List Nat:=(List.range n).map fun i=>v/2^i%2
def vP (v n:Nat):List Nat:=(List.range n).map fun i=>v/2^(n-1-i)%2
theorem bY (v n:Nat):(fU v n).length=n:=by simp[fU]
theorem tJ (v n:Nat):(vP v n).length=n:=by simp[vP]
theorem H6 (v n:Nat):fU v (n+1)=fU v n++[v/2^n%2]:=by simp[fU,List.range_succ]
theorem j5 (v n:Nat):pG (fU v n):=fun x hx=>by
  simp only[fU,List.mem_map] at hx;obtain⟨i,_,rfl⟩:=hx;omega
theorem EH (v n:Nat):vP v (n+1)=v/2^n%2::vP v n:=by
  simp only[vP,List.range_succ_eq_map,List.map_cons,List.map_map];have e:(List.range n).map ((fun i=>v/2^(n+1-1-i)%2) ∘ Nat.succ)=(List.range n).map fun i=>v/2^(n-1-i)%2:=List.map_congr_left fun i hi=>by
    simp only[Function.comp];rw[show n+1-1-Nat.succ i=n-1-i by omega]
  rw[e];simp
theorem pY:∀(n v:Nat),bitsV (vP v n)=v%2^n
  |0,v=>by simp[vP,bitsV,Nat.mod_one]
  |n+1,v=>by
    rw[EH,bitsV,tJ,pY n v,Nat.pow_succ,Nat.mod_mul,Nat.mul_comm];omega
def lowV:List Nat→Nat
  |[]=>0
  |b::bs=>b+2*lowV bs
theorem ib:∀as bs:List Nat,lowV (as++bs)=lowV as+2^as.length*lowV bs
  |[],bs=>by simp[lowV]
  |a::as,bs=>by
    simp only[List.cons_append,lowV,ib as bs,List.length_cons,Nat.pow_succ,Nat.mul_add];rw[Nat.mul_comm (2^as.length) 2,Nat.mul_assoc];omega
theorem gO:∀(n v:Nat),lowV (fU v n)=v%2^n
  |0,v=>by simp[fU,lowV,Nat.mod_one]
  |n+1,v=>by
    rw[H6,ib,gO n v,bY,Nat.pow_succ,Nat.mod_mul];simp[lowV]
theorem wV:∀{bs:List Nat},pG bs→lowV bs<2^bs.length
  |[],_=>by simp[lowV]
  |b::bs,h=>by
    have h1:=h b List.mem_cons_self;have h2:=wV (bs:=bs) fun x hx=>h x (List.mem_cons_of_mem _ hx)
    simp only[lowV,List.length_cons,Nat.pow_succ];omega
theorem Rf {a b:List Nat} {i:Nat} (h:a.take i=b.take i) (ha:i<a.length) (hb:i<b.length) (he:a.getD i 0=b.getD i 0):a.take (i+1)=b.take (i+1):=by
  rw[List.take_succ_eq_append_getElem ha,List.take_succ_eq_append_getElem hb,h];have:a[i]=b[i]:=by simpa [ha,hb] using he
  rw[this]
theorem Rg {a b:List Nat} {i:Nat} (h:a.take i=b.take i) (ha:a.length≤i) (hb:b.length≤i):a=b:=by
  rwa [List.take_of_length_le ha,List.take_of_length_le hb] at h
def VM (xs:List Nat) (p:Nat):Nat:=xs.getD (p/8) 0/2^(p%8)%2
theorem H7 {xs:List Nat} (hb:Bytes xs) {p n:Nat} (h:p/8<n):VM xs p=tailV xs 0 n/2^p%2:=by
  unfold VM;rw[←xP hb h];have e:(2:Nat)^p=2^(8*(p/8))*2^(p%8):=by rw[←Nat.pow_add];congr 1;omega
  rw[e, ←Nat.div_div_eq_div_mul];generalize tailV xs 0 n/2^(8*(p/8))=q;have CD:(256:Nat)=2^(p%8)*2^(8-p%8):=by rw[←Nat.pow_add,show p%8+(8-p%8)=8 by omega]
  rw[CD,Nat.mod_mul_right_div_self];have:2∣2^(8-p%8):=by rw[show 8-p%8=(7-p%8)+1 by omega,Nat.pow_succ];exact Nat.dvd_mul_left _ _
  exact Nat.mod_mod_of_dvd _ this
def bitsN (xs:List Nat) (p:Nat):Nat→Nat
  |0=>0
  |n+1=>bitsN xs p n+VM xs (p+n)*2^n
theorem xQ {xs:List Nat} (hb:Bytes xs) {p m:Nat}:∀n,(p+n+7)/8≤m→bitsN xs p n=tailV xs 0 m/2^p%2^n
  |0,_=>by simp[bitsN,Nat.mod_one]
  |n+1,h=>by
    simp only[bitsN];rw[xQ (m:=m) hb n Om,H7 hb (n:=m) Om,Nat.pow_succ,Nat.mod_mul,Nat.pow_add,Nat.div_div_eq_div_mul,Nat.mul_comm (2^n)]
theorem qN (n i:Nat):(List.replicate n 0).getD i 0=0:=by
  simp only[List.getD_eq_getElem?_getD,List.getElem?_replicate];split<;>rfl
end Go.Proofs.YtekcchgffhphbaaGreatDoor
