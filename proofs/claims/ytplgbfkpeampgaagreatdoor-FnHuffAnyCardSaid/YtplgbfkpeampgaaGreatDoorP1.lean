/- The walk's own engine and plain laws of numbers, bits and codes, part 1. -/
import Derived.Still
import Derived.OrdersHeld
import Derived.Tactics
import Derived.KernelRfl
import Derived.Below
import Derived.IntWalk
import Derived.ArgAppend
import Derived.Laws.OwnMore
set_option linter.unusedVariables false
set_option linter.unusedSimpArgs false
set_option linter.unnecessarySimpa false
namespace Go.Proofs.YtplgbfkpeampgaaGreatDoor
theorem Om {p:Prop} (h:p:=by omega):p:=h
theorem Oa {p:Prop} (h:p:=by assumption):p:=h
theorem Od {p:Prop} (h:p:=by decide):p:=h
theorem Oy {p:Prop} (h:p:=by first|omega|(simp;omega)|simp):p:=h
theorem Oz {p:Prop} (h:p:=by simp;omega):p:=h
theorem Ou {p:Prop} (h:p:=by first|omega|(simp;omega)):p:=h
theorem Ow {p:Prop} (h:p:=by first|rfl|(simp;omega)|simp_all):p:=h
theorem Oi {p:Prop} (h:p:=by simp):p:=h
theorem Oe {p:Prop} (h:p:=by first|rfl|omega):p:=h
theorem Oq {a b c d:Prop} (h1:a:=by first|omega|simp) (h2:b:=by first|omega|(simp;omega)) (h3:c:=by first|omega|(simp;omega)) (h4:d:=by first|rfl|omega|(simp;omega)|simp):a∧b∧c∧d:=⟨h1,h2,h3,h4⟩
structure Seg where
  b:Nat
  o:Nat
  cs:List Value
  sh:Option (TypeId × Nat):=none
def Seg.has (s:Seg) (b j:Nat):Prop:=s.b=b∧s.o≤j∧j<s.o+s.cs.length
def Seg.inW (s:Seg) (w:World):Prop:=
  (∀j v,s.cs[j]? =some v→w.cell? ⟨s.b,s.o+j,none⟩=some v)∧
  (∀j,j<s.cs.length→w.frozen? ⟨s.b,s.o+j,none⟩=false)∧
  (∀x,s.sh=some x→w.shape? s.b=some x)
def Seg.apart (s t:Seg):Prop:=∀b j:Nat,s.has b j→¬t.has b j
theorem Seg.apart.symm {s t:Seg} (h:s.apart t):t.apart s:=fun b j h1 h2=>h b j h2 h1
structure St (l r:List Seg) (w:World):Prop where
  hl:∀s ∈ l,s.inW w
  hr:∀s ∈ r,s.inW w
  pw:l.Pairwise Seg.apart
  lr:∀s ∈ l,∀t ∈ r,s.apart t
structure Keeps (l:List Seg) (w w':World):Prop where
  os:w'.os=w.os
  tape:w'.tape=w.tape
  output:w'.output=w.output
  size:w.heap.size≤w'.heap.size
  cells:∀(b:Nat) (c:Array Value) (T:TypeId) (f:Nat × Nat),w.heap[b]? =some (.cells c T f)→∃c',w'.heap[b]? =some (.cells c' T f)∧c'.size=c.size∧∀j:Nat,(∀s ∈ l,¬s.has b j)→c'[j]? =c[j]?
  other:∀(b:Nat) (o:Obj),w.heap[b]? =some o→(∀c T f,o≠Obj.cells c T f)→w'.heap[b]? =some o
theorem Keeps.refl (l:List Seg) (w:World):Keeps l w w:=
  ⟨rfl,rfl,rfl,Nat.le_refl _,fun _ c _ _ h=>⟨c,h,rfl,fun _ _=>rfl⟩,fun _ _ h _=>h⟩
theorem Keeps.trans' {l l2:List Seg} {w w1 w2:World} (h:Keeps l w w1) (k:Keeps l2 w1 w2)
    (hl:∀s ∈ l2,∀b j,s.has b j→(∃t ∈ l,t.has b j)∨w.heap.size≤b):Keeps l w w2:=by
  refine⟨k.os.trans h.os,k.tape.trans h.tape,k.output.trans h.output,Nat.le_trans h.size k.size,?_,?_⟩
  · intro b c T f hb
    obtain⟨c1,h1,hs1,hc1⟩:=h.cells b c T f hb
    obtain⟨c2,h2,hs2,hc2⟩:=k.cells b c1 T f h1
    refine⟨c2,h2,hs2.trans hs1,fun j hj=>?_⟩
    rw[hc2 j ?_,hc1 j hj]
    intro s hs hh
    rcases hl s hs b j hh with ⟨t,ht,ht2⟩|hge
    · exact hj t ht ht2
    · have:b<w.heap.size:=(Array.getElem?_eq_some_iff.1 hb).1
      omega
  · intro b o hb ho
    exact k.other b o (h.other b o hb ho) ho
theorem Keeps.alloc (l:List Seg) (w:World) (o:Obj):Keeps l w (w.alloc o):=by
  have key:∀b x,w.heap[b]? =some x→(w.alloc o).heap[b]? =some x:=fun b x hb=>by
    have hlt:b<w.heap.size:=(Array.getElem?_eq_some_iff.1 hb).1
    show(w.heap.push o)[b]? =_
    rw[Array.getElem?_push,if_neg Om,hb]
  exact⟨rfl,rfl,rfl,Oi,fun b c T f h=>⟨c,key b _ h,rfl,fun _ _=>rfl⟩,fun b x h _=>key b x h⟩
theorem Keeps.setCell {l:List Seg} (w:World) {b j:Nat} (v:Value) (hs:∃s ∈ l,s.has b j):Keeps l w (w.setCell ⟨b,j,none⟩ v):=by
  refine⟨rfl,rfl,rfl,Oi,?_,?_⟩
  · intro b' c T f hb
    by_cases hbb:b=b'
    · subst hbb
      refine⟨c.setIfInBounds j v,by simp[World.setCell,Array.getElem?_modify,hb],Oi,fun i hi=>?_⟩
      rw[Array.getElem?_setIfInBounds]
      split
      · rename_i e;subst e
        obtain⟨s,hsl,hh⟩:=hs
        exact(hi s hsl hh).elim
      · rfl
    · exact⟨c,by simp[World.setCell,Array.getElem?_modify,hb,hbb],rfl,fun _ _=>rfl⟩
  · intro b' o hb ho
    by_cases hbb:b=b'
    · subst hbb
      cases o<;>first|exact(ho _ _ _ rfl).elim|simp[World.setCell,Array.getElem?_modify,hb]
    · simp[World.setCell,Array.getElem?_modify,hb,hbb]
theorem Keeps.cell {l:List Seg} {w w':World} (h:Keeps l w w') {b j:Nat} {v:Value} (hj:∀s ∈ l,¬s.has b j) (hc:w.cell? ⟨b,j,none⟩=some v):w'.cell? ⟨b,j,none⟩=some v:=by
  unfold World.cell? at hc ⊢
  cases hb:w.heap[b]? with
  |none=>simp[hb] at hc
  |some o=>
    cases o with
    |cells c T f=>
      obtain⟨c',h',_,hcc⟩:=h.cells b c T f hb
      simp only[hb,h'] at hc ⊢
      rw[hcc j hj];exact hc
    |_=>simp[hb] at hc
theorem World.cell_lt {w:World} {b j:Nat} {v:Value} (h:w.cell? ⟨b,j,none⟩=some v):b<w.heap.size:=World.block_lt_of_cell? w _ h
theorem Keeps.frozen {l:List Seg} {w w':World} (h:Keeps l w w') {b j:Nat} (hb:b<w.heap.size):w'.frozen? ⟨b,j,none⟩=w.frozen? ⟨b,j,none⟩:=by
  have hb':w.heap[b]? =some w.heap[b]:=Array.getElem?_eq_getElem hb
  unfold World.frozen?
  cases ho:w.heap[b] with
  |cells c T f=>
    rw[ho] at hb'
    obtain⟨c',h',_,_⟩:=h.cells b c T f hb'
    simp[hb',h']
  |_=>rw[ho] at hb';have:=h.other b _ hb' Oi;simp[hb',this]
theorem Keeps.shape {l:List Seg} {w w':World} (h:Keeps l w w') {b:Nat} {x:TypeId × Nat} (hx:w.shape? b=some x):w'.shape? b=some x:=by
  unfold World.shape? at hx ⊢
  cases hb:w.heap[b]? with
  |none=>simp[hb] at hx
  |some o=>
    cases o with
    |cells c T f=>
      obtain⟨c',h',hs,_⟩:=h.cells b c T f hb
      simp only[hb,h',hs] at hx ⊢
      exact hx
    |_=>simp[hb] at hx
theorem Seg.inW.lt {w:World} {s:Seg} (hs:s.inW w) {b j:Nat} (h:s.has b j):b<w.heap.size:=by
  obtain⟨rfl,h1,h2⟩:=h
  exact World.cell_lt (hs.1 (j-s.o) (s.cs[j-s.o]' Om) Oi)
theorem Seg.inW.keep {l:List Seg} {w w':World} {s:Seg} (hs:s.inW w) (h:Keeps l w w') (ha:∀t ∈ l,t.apart s):s.inW w':=by
  refine⟨fun j v hj=>?_,fun j hj=>?_,fun x hx=>h.shape (hs.2.2 x hx)⟩
  · have hlen:j<s.cs.length:=by
      rcases Nat.lt_or_ge j s.cs.length with h'|h'
      · exact h'
      · simp[List.getElem?_eq_none h'] at hj
    exact h.cell (fun t ht hh=>ha t ht s.b (s.o+j) hh ⟨rfl,Om,Om⟩) (hs.1 j v hj)
  · have hlt:s.b<w.heap.size:=hs.lt ⟨rfl,Nat.le_add_right s.o j,Om⟩
    exact(h.frozen hlt).trans (hs.2.1 j hj)
section
variable {P:Program} {ops:Array Oper} {Q:Exit→Act→World→Prop} {md:Region.Mode} {E:Nat→Bool}
def wpM (P:Program) (md:Region.Mode) (ops:Array Oper) (E:Nat→Bool) (Q:Exit→Act→World→Prop):Nat→Array Bool→Act→World→Prop
  |0,listed,a,w=>Region.ready md ops listed=[]∧Q .normal a w
  |fuel+1,listed,a,w=>
    (Region.ready md ops listed=[]→Q .normal a w)∧
    ∀i ∈ Region.ready md ops listed,
      if E i then wpOp P ops Q i (wpM P md ops E Q fuel (listed.setIfInBounds i true)) a w
      else stOp P ops w i (fun a'=>wpM P md ops E Q fuel (listed.setIfInBounds i true) a' w) a
theorem wpAny_of_M:∀(fuel:Nat) (listed:Array Bool) (a:Act) (w:World),wpM P md ops E Q fuel listed a w→wpAny P md ops Q fuel listed a w
  |0,_,_,_,h=>h
  |fuel+1,listed,a,w,h=>⟨h.1,fun i hi=>by
      have h2:=h.2 i hi
      by_cases hE:E i=true
      · rw[if_pos hE] at h2
        exact wpOp_mono (fun a' w' h'=>wpAny_of_M fuel _ a' w' h') h2
      · rw[if_neg hE] at h2
        exact wpOp_of_stOp (fun a' h'=>wpAny_of_M fuel _ a' w h') h2⟩
structure NB (md:Region.Mode) (ops:Array Oper) (listed:Array Bool) (i:Nat) (oi:Oper) (bh:Nat→Prop):Prop where
  un:∀j,j<ops.size→bh j→listed.getD j true=false
  chain:∀j oj,ops[j]? =some oj→bh j→j≠i→∃e ∈ oj.after,Region.binds md e=true∧bh e.on∧e.on<ops.size
  apart:∀j oj,ops[j]? =some oj→listed.getD j true=false→¬bh j→oi.apart ops oj=true
theorem getD_true_false {listed:Array Bool} {k:Nat} (h1:listed.getD k false=true) (h2:listed.getD k true=false):False:=by
  rcases Nat.lt_or_ge k listed.size with h'|h'
  · simp[h'] at h1 h2;rw[h1] at h2;cases h2
  · simp[Array.getElem?_eq_none h'] at h1
theorem NB.notReady {listed:Array Bool} {i:Nat} {oi:Oper} {bh:Nat→Prop} (h:NB md ops listed i oi bh) {j:Nat} (hj:j ∈ Region.ready md ops listed) (hne:j≠i):¬bh j:=by
  intro hb
  obtain⟨hun,oj,hoj,hall⟩:=mem_ready.1 hj
  obtain⟨e,he,hbi,hbe,hlt⟩:=h.chain j oj hoj hb hne
  exact getD_true_false (hall e he hbi) (h.un e.on hlt hbe)
theorem NB.put {listed:Array Bool} {i:Nat} {oi:Oper} {bh:Nat→Prop} (h:NB md ops listed i oi bh) {j:Nat} (hb:¬bh j) (hun:listed.getD j true=false):NB md ops (listed.setIfInBounds j true) i oi bh:=by
  refine⟨fun k hk hbk=>?_,h.chain,fun k ok hk hl hbk=>?_⟩
  · by_cases hjk:j=k
    · subst hjk;exact(hb hbk).elim
    · rw[getD_set_ne true hjk];exact h.un k hk hbk
  · by_cases hjk:j=k
    · subst hjk;exact h.apart j ok hk hun hb
    · rw[getD_set_ne true hjk] at hl;exact h.apart k ok hk hl hbk
theorem wpM_read {i:Nat} {oi:Oper} {v:Value} {bh:Nat→Prop} (hi:ops[i]? =some oi) (hsel:∀(j:Nat) (o:Oper) cs b,ops[j]? =some o→o.op≠ .select cs b) (hEi:E i=false) (hself:bh i):
    ∀(fuel:Nat) (listed:Array Bool) (a:Act) (w:World),NB md ops listed i oi bh→(∀j,j<ops.size→listed.getD j true=false→E j=true→bh j)→
      i ∈ Region.ready md ops listed→YieldsAt P ops w oi v a→
      wpM P md ops E Q fuel (listed.setIfInBounds i true) (a.put oi.dst v) w→wpM P md ops E Q (fuel+1) listed a w:=by
  intro fuel
  induction fuel with
  |zero=>
    intro listed a w hnb hE _ hy H
    rename_i hr
    refine⟨fun h=>(by rw[h] at hr;cases hr),fun j hj=>?_⟩
    by_cases hji:j=i
    · subst hji;rw[if_neg (by rw[hEi];simp)];exact hy.stOp hi H
    · have:=ready_mono hj hji
      rw[H.1] at this
      cases this
  |succ fuel ih=>
    intro listed a w hnb heff hr hy H
    refine⟨fun h=>(by rw[h] at hr;cases hr),fun j hj=>?_⟩
    by_cases hji:j=i
    · subst hji;rw[if_neg (by rw[hEi];simp)];exact hy.stOp hi H
    · have h1:=H.2 j (ready_mono hj hji)
      obtain⟨hjun,oj,hoj,hall⟩:=mem_ready.1 hj
      have hjlt:=(Array.getElem?_eq_some_iff.1 hoj).1
      have hbj:=hnb.notReady hj hji
      have hEj:¬E j=true:=fun hE=>hbj (heff j hjlt hjun hE)
      rw[if_neg hEj] at h1 ⊢
      have h2:=stOp_put hoj (hnb.apart j oj hoj hjun hbj) (fun cs b=>hsel i oi cs b hi) (fun cs b=>hsel j oj cs b hoj) hy h1
      refine stOp_mono (fun a' h3=>ih (listed.setIfInBounds j true) a' w (hnb.put hbj hjun) (fun k hk hl hE=>?_) (ready_mono hr (Ne.symm hji)) h3.1 ?_) h2
      · by_cases hjk:j=k
        · subst hjk;exact(hEj hE).elim
        · rw[getD_set_ne true hjk] at hl;exact heff k hk hl hE
      · rw[Array.setIfInBounds_comm _ _ hji]
        exact h3.2
theorem wpM_pure {i:Nat} {oi:Oper} {v:Value} {bh:Nat→Prop} (hi:ops[i]? =some oi) (hsel:∀(j:Nat) (o:Oper) cs b,ops[j]? =some o→o.op≠ .select cs b) (hEi:E i=false)
    (hQ:∀c a w,Q (.panic c) (a.put oi.dst v) w→Q (.panic c) a w):
    ∀(fuel:Nat) (listed:Array Bool) (a:Act) (w:World),NB md ops listed i oi bh→
      i ∈ Region.ready md ops listed→Yields P ops oi v a→
      wpM P md ops E Q fuel (listed.setIfInBounds i true) (a.put oi.dst v) w→wpM P md ops E Q (fuel+1) listed a w:=by
  have atY:∀{a:Act} {w:World},Yields P ops oi v a→YieldsAt P ops w oi v a:=fun h=>h.imp (fun ⟨h1,h2⟩=>⟨h1,.inl (h2 _)⟩) id
  intro fuel
  induction fuel with
  |zero=>
    intro listed a w _ hr hy H
    refine⟨fun h=>(by rw[h] at hr;cases hr),fun j hj=>?_⟩
    by_cases hji:j=i
    · subst hji;rw[if_neg (by rw[hEi];simp)];exact(atY hy).stOp hi H
    · have:=ready_mono hj hji
      rw[H.1] at this
      cases this
  |succ fuel ih=>
    intro listed a w hnb hr hy H
    refine⟨fun h=>(by rw[h] at hr;cases hr),fun j hj=>?_⟩
    by_cases hji:j=i
    · subst hji;rw[if_neg (by rw[hEi];simp)];exact(atY hy).stOp hi H
    · have h1:=H.2 j (ready_mono hj hji)
      obtain⟨hjun,oj,hoj,hall⟩:=mem_ready.1 hj
      have hbj:=hnb.notReady hj hji
      have hap:=hnb.apart j oj hoj hjun hbj
      by_cases hE:E j=true
      · rw[if_pos hE] at h1 ⊢
        have h2:=wpOp_put hoj hap (fun cs b=>hsel i oi cs b hi) (fun cs b=>hsel j oj cs b hoj) hQ hy h1
        refine wpOp_mono (fun a' w' h3=>ih (listed.setIfInBounds j true) a' w' (hnb.put hbj hjun) (ready_mono hr (Ne.symm hji)) h3.1 ?_) h2
        rw[Array.setIfInBounds_comm _ _ hji]
        exact h3.2
      · rw[if_neg hE] at h1 ⊢
        have h2:=stOp_put hoj hap (fun cs b=>hsel i oi cs b hi) (fun cs b=>hsel j oj cs b hoj) (atY hy) h1
        obtain⟨hp1,hp2,hp3⟩:=Oper.apart_spec hap
        obtain⟨u,hu,h5⟩:=yieldsAt_of_stOp hoj h2
        refine hu.stOp hoj (ih (listed.setIfInBounds j true) _ w (hnb.put hbj hjun) (ready_mono hr (Ne.symm hji)) ?_ ?_)
        · exact hy.of_same (execOp_put oi (fun cs b=>hsel i oi cs b hi) a oj.dst u hp3) (wanted_put oi a oj.dst u hp3)
        · rw[Array.setIfInBounds_comm _ _ hji]
          exact h5.2
theorem wpM_only {i:Nat} {fuel:Nat} {listed:Array Bool} {a:Act} {w:World} (hi:i ∈ Region.ready md ops listed) (hr:∀j ∈ Region.ready md ops listed,j=i)
    (hE:E i=true) (h:wpOp P ops Q i (wpM P md ops E Q fuel (listed.setIfInBounds i true)) a w):wpM P md ops E Q (fuel+1) listed a w:=
  ⟨fun h0=>(by rw[h0] at hi;cases hi),fun j hj=>(by
    have:=hr j hj
    subst this;rw[if_pos hE];exact h)⟩
theorem wpM_done {listed:Array Bool} {a:Act} {w:World} (hr:Region.ready md ops listed=[]) (h:Q .normal a w):
    ∀fuel,wpM P md ops E Q fuel listed a w
  |0=>⟨hr,h⟩
  |_+1=>⟨fun _=>h,by rw[hr];simp⟩
theorem wp_region_M {id:Nat} {a:Act} {w:World} (hm:P.follows .mixedOrders=true)
    (h:wpM P .any ops E Q ops.size (Array.replicate ops.size false) a w.drew):(Code.region id ops true).wp P Q a w:=
  wp_region_any hm (wpAny_of_M _ _ _ _ h)
end
def nth:Nat→List Oper→Option Oper
  |_,[]=>none
  |0,o::_=>some o
  |n+1,_::L=>nth n L
theorem nth_eq:∀(i:Nat) (L:List Oper),nth i L=L[i]?
  |_,[]=>by simp[nth]
  |0,o::_=>by simp[nth]
  |n+1,_::L=>by simp[nth,nth_eq n L]
theorem nth_arr {i:Nat} {L:List Oper} {o:Oper} (h:nth i L=some o):L.toArray[i]? =some o:=by rw[nth_eq] at h;simpa using h
def nthN:Nat→List Nat→Nat
  |_,[]=>0
  |0,o::_=>o
  |n+1,_::L=>nthN n L
def maskOf (acc:List Nat):List Edge→Nat
  |[]=>0
  |e::es=>if Region.binds .any e && Nat.blt e.on acc.length then Nat.lor (Nat.lor (Nat.pow 2 e.on) (nthN e.on acc)) (maskOf acc es) else maskOf acc es
def befs:List Nat→List Oper→List Nat
  |acc,[]=>acc
  |acc,o::os=>befs (acc++[maskOf acc o.after.toList]) os
def backB:Nat→List Oper→Bool
  |_,[]=>true
  |n,o::os=>(o.after.toList.all fun e=> !Region.binds .any e||Nat.blt e.on n) && backB (n+1) os
def apartB (ops:Array Oper) (b:List Nat):Nat→List Oper→Nat→Oper→Bool
  |_,[],_,_=>true
  |j,o::os,i,oi=>(Nat.testBit (nthN j b) i||Nat.testBit (nthN i b) j||j==i||oi.apart ops o) && apartB ops b (j+1) os i oi
def apartAll (ops:Array Oper) (b:List Nat) (L:List Oper):Nat→List Oper→Bool
  |_,[]=>true
  |i,o::os=>apartB ops b 0 L i o && apartAll ops b L (i+1) os
inductive Kd where
  |y|r|e
  deriving DecidableEq
def subM (m d:Nat):Bool:=Nat.beq (Nat.land m d) m
def allFrom (p:Nat→Bool):Nat→Nat→Bool
  |_,0=>true
  |j,n+1=>p j && allFrom p (j+1) n
theorem allFrom_spec {p:Nat→Bool}:∀(n j:Nat),allFrom p j n=true→∀k,j≤k→k<j+n→p k=true
  |0,_,_,k,h1,h2=>by omega
  |n+1,j,h,k,h1,h2=>by
    simp only[allFrom,Bool.and_eq_true] at h
    by_cases e:k=j
    · subst e;exact h.1
    · exact allFrom_spec n (j+1) h.2 k Om Om
def stepsB (n:Nat) (b:List Nat) (E:Nat):List (Nat × Kd)→Nat→Bool
  |[],d=>Nat.beq d (Nat.pow 2 n-1)
  |(i,k)::rest,d=>Nat.blt i n && !Nat.testBit d i && subM (nthN i b) d &&
      (match k with
       | .y=> !Nat.testBit E i
       | .r=> !Nat.testBit E i && allFrom (fun j=>Nat.testBit d j|| !Nat.testBit E j||Nat.testBit (nthN j b) i) 0 n
       | .e=>Nat.testBit E i && allFrom (fun j=>Nat.testBit d j||j==i||Nat.testBit (nthN j b) i) 0 n) && stepsB n b E rest (Nat.lor d (Nat.pow 2 i))
def planB (L:List Oper) (E:Nat) (order:List (Nat × Kd)):Bool:=
  Region.noSelect L.toArray && Nat.ble order.length L.length && backB 0 L && apartAll L.toArray (befs [] L) L 0 L && stepsB L.length (befs [] L) E order 0
theorem nthN_eq:∀(i:Nat) (L:List Nat),nthN i L=L.getD i 0
  |_,[]=>by simp[nthN]
  |0,o::_=>by simp[nthN]
  |n+1,_::L=>by simp[nthN,nthN_eq n L]
theorem maskOf_bit (acc:List Nat) (i:Nat):∀(es:List Edge),(maskOf acc es).testBit i=true→∃e ∈ es,Region.binds .any e=true∧e.on<acc.length∧(e.on=i∨(nthN e.on acc).testBit i=true)
  |[],h=>by simp[maskOf] at h
  |e::es,h=>by
    simp only[maskOf] at h
    split at h
    · rename_i hc
      rw[Bool.and_eq_true] at hc
      have h':((2^e.on|||nthN e.on acc)|||maskOf acc es).testBit i=true:=h
      rw[Nat.testBit_or,Nat.testBit_or,Bool.or_eq_true,Bool.or_eq_true] at h'
      rcases h' with (h1|h1)|h1
      · rw[Nat.testBit_two_pow] at h1
        exact⟨e,List.mem_cons_self,hc.1,Nat.le_of_ble_eq_true hc.2,.inl (by simpa using h1)⟩
      · exact⟨e,List.mem_cons_self,hc.1,Nat.le_of_ble_eq_true hc.2,.inr h1⟩
      · obtain⟨e',he',h2⟩:=maskOf_bit acc i es h1
        exact⟨e',List.mem_cons_of_mem _ he',h2⟩
    · obtain⟨e',he',h2⟩:=maskOf_bit acc i es h
      exact⟨e',List.mem_cons_of_mem _ he',h2⟩
theorem maskOf_mem (acc:List Nat):∀(es:List Edge) (e:Edge),e ∈ es→Region.binds .any e=true→e.on<acc.length→(maskOf acc es).testBit e.on=true
  |[],e,h,_,_=>by cases h
  |e0::es,e,h,hb,hl=>by
    simp only[maskOf]
    split
    · show((2^e0.on|||nthN e0.on acc)|||maskOf acc es).testBit e.on=true
      rw[Nat.testBit_or,Nat.testBit_or]
      rcases List.mem_cons.1 h with h'|h'
      · subst h';simp[Nat.testBit_two_pow]
      · simp[maskOf_mem acc es e h' hb hl]
    · rename_i hc
      rcases List.mem_cons.1 h with h'|h'
      · subst h'
        exfalso;apply hc
        rw[hb,Bool.true_and];exact Nat.ble_eq_true_of_le hl
      · exact maskOf_mem acc es e h' hb hl
theorem befs_len:∀(L:List Oper) (acc:List Nat),(befs acc L).length=acc.length+L.length
  |[],acc=>by simp[befs]
  |o::os,acc=>by simp only[befs,befs_len os,List.length_append,List.length_cons,List.length_nil];omega
theorem befs_old:∀(L:List Oper) (acc:List Nat) (k:Nat),k<acc.length→(befs acc L)[k]? =acc[k]?
  |[],acc,k,h=>by simp[befs]
  |o::os,acc,k,h=>by
    simp only[befs]
    rw[befs_old os _ k Oz,List.getElem?_append_left h]
theorem befs_at:∀(L:List Oper) (acc:List Nat) (j:Nat) (o:Oper),L[j]? =some o→(befs acc L)[acc.length+j]? =some (maskOf ((befs acc L).take (acc.length+j)) o.after.toList)
  |[],acc,j,o,h=>by simp at h
  |o0::os,acc,0,o,h=>by
    simp at h;subst h
    simp only[befs,Nat.add_zero]
    rw[befs_old os _ acc.length Oi]
    rw[List.getElem?_append_right (Nat.le_refl _)]
    simp only[Nat.sub_self,List.getElem?_cons_zero,Option.some.injEq]
    congr 1
    apply List.ext_getElem?
    intro k
    rw[List.getElem?_take]
    split
    · rename_i hk
      rw[befs_old os _ k Oz,List.getElem?_append_left hk]
    · rename_i hk
      rw[List.getElem?_eq_none Om]
  |o0::os,acc,j+1,o,h=>by
    simp only[befs]
    have:=befs_at os (acc++[maskOf acc o0.after.toList]) j o (by simpa using h)
    have e:(acc++[maskOf acc o0.after.toList]).length+j=acc.length+(j+1):=by simp;omega
    rw[e] at this
    exact this
theorem bef_chain {L:List Oper} {j i:Nat} {o:Oper} (hj:L[j]? =some o) (h:(nthN j (befs [] L)).testBit i=true):∃e ∈ o.after,Region.binds .any e=true∧e.on<j∧(e.on=i∨(nthN e.on (befs [] L)).testBit i=true):=by
  have h1:=befs_at L [] j o hj
  simp only[List.length_nil,Nat.zero_add] at h1
  rw[nthN_eq,List.getD_eq_getElem?_getD,h1,Option.getD_some] at h
  have hjl:j<L.length:=by
    rcases Nat.lt_or_ge j L.length with h'|h'
    · exact h'
    · simp[List.getElem?_eq_none h'] at hj
  obtain⟨e,he,hb,hl,hor⟩:=maskOf_bit _ _ _ h
  have hl':e.on<j:=by
    rw[List.length_take,befs_len] at hl;omega
  refine⟨e,by simpa using he,hb,hl',hor.imp id fun h2=>?_⟩
  rw[nthN_eq,List.getD_eq_getElem?_getD,List.getElem?_take,if_pos hl'] at h2
  rw[nthN_eq,List.getD_eq_getElem?_getD];exact h2
theorem bef_direct {L:List Oper} {j:Nat} {o:Oper} (hj:L[j]? =some o) {e:Edge} (he:e ∈ o.after) (hb:Region.binds .any e=true) (hl:e.on<j):(nthN j (befs [] L)).testBit e.on=true:=by
  have h1:=befs_at L [] j o hj
  simp only[List.length_nil,Nat.zero_add] at h1
  rw[nthN_eq,List.getD_eq_getElem?_getD,h1,Option.getD_some]
  have hjl:j<L.length:=by
    rcases Nat.lt_or_ge j L.length with h'|h'
    · exact h'
    · simp[List.getElem?_eq_none h'] at hj
  refine maskOf_mem _ _ e (by simpa using he) hb ?_
  rw[List.length_take,befs_len];simp;omega
theorem backB_spec:∀(L:List Oper) (n:Nat),backB n L=true→∀(j:Nat) (o:Oper),L[j]? =some o→∀e ∈ o.after,Region.binds .any e=true→e.on<n+j
  |[],n,_,j,o,hj,_,_,_=>by simp at hj
  |o0::os,n,h,0,o,hj,e,he,hb=>by
    simp at hj;subst hj
    simp only[backB,Bool.and_eq_true,List.all_eq_true] at h
    have:=h.1 e (by simpa using he)
    rw[hb] at this
    have h2:Nat.blt e.on n=true:=by simpa using this
    have h3:=Nat.le_of_ble_eq_true h2
    omega
  |o0::os,n,h,j+1,o,hj,e,he,hb=>by
    simp only[backB,Bool.and_eq_true] at h
    have:=backB_spec os (n+1) h.2 j o (by simpa using hj) e he hb
    omega
theorem apartB_spec {ops:Array Oper} {b:List Nat} {i:Nat} {oi:Oper}:∀(L:List Oper) (n:Nat),apartB ops b n L i oi=true→∀(j:Nat) (o:Oper),L[j]? =some o→(nthN (n+j) b).testBit i=true∨(nthN i b).testBit (n+j)=true∨n+j=i∨oi.apart ops o=true
  |[],n,_,j,o,hj=>by simp at hj
  |o0::os,n,h,0,o,hj=>by
    simp at hj;subst hj
    simp only[apartB,Bool.and_eq_true,Bool.or_eq_true,beq_iff_eq] at h
    rcases h.1 with ((h1|h1)|h1)|h1
    · exact .inl h1
    · exact .inr (.inl h1)
    · exact .inr (.inr (.inl h1))
    · exact .inr (.inr (.inr h1))
  |o0::os,n,h,j+1,o,hj=>by
    simp only[apartB,Bool.and_eq_true] at h
    have:=apartB_spec os (n+1) h.2 j o (by simpa using hj)
    rw[show n+(j+1)=n+1+j by omega];exact this
theorem apartAll_spec {ops:Array Oper} {b:List Nat} {L0:List Oper}:∀(L:List Oper) (n:Nat),apartAll ops b L0 n L=true→∀(i:Nat) (o:Oper),L[i]? =some o→apartB ops b 0 L0 (n+i) o=true
  |[],n,_,j,o,hj=>by simp at hj
  |o0::os,n,h,0,o,hj=>by
    simp at hj;subst hj
    simp only[apartAll,Bool.and_eq_true] at h
    exact h.1
  |o0::os,n,h,i+1,o,hj=>by
    simp only[apartAll,Bool.and_eq_true] at h
    have:=apartAll_spec os (n+1) h.2 i o (by simpa using hj)
    rw[show n+(i+1)=n+1+i by omega];exact this
theorem subM_spec {m d:Nat} (h:subM m d=true) {i:Nat} (hi:m.testBit i=true):d.testBit i=true:=by
  have h':m&&&d=m:=Nat.eq_of_beq_eq_true h
  have:=congrArg (fun x=>x.testBit i) h'
  simp only[Nat.testBit_and,hi,Bool.true_and] at this
  exact this
section
variable {P:Program} {Q:Exit→Act→World→Prop}
def wpP (P:Program) (ops:Array Oper) (Q:Exit→Act→World→Prop):List (Nat × Kd)→Act→World→Prop
  |[],a,w=>Q .normal a w
  |(i,k)::rest,a,w=>match k with
    | .y=>∃o v,ops[i]? =some o∧Yields P ops o v a∧wpP P ops Q rest (a.put o.dst v) w
    | .r=>∃o v,ops[i]? =some o∧YieldsAt P ops w o v a∧wpP P ops Q rest (a.put o.dst v) w
    | .e=>wpOp P ops Q i (wpP P ops Q rest) a w
structure Lst (L:List Oper) (d:Nat) (listed:Array Bool):Prop where
  size:listed.size=L.length
  at_:∀j,j<L.length→listed.getD j true=d.testBit j
  closed:∀j,j<L.length→d.testBit j=true→subM (nthN j (befs [] L)) d=true
theorem Lst.put {L:List Oper} {d i:Nat} {listed:Array Bool} (h:Lst L d listed) (hi:i<L.length) (hs:subM (nthN i (befs [] L)) d=true):Lst L (Nat.lor d (Nat.pow 2 i)) (listed.setIfInBounds i true):=by
  have hb:∀j,(Nat.lor d (Nat.pow 2 i)).testBit j=(d.testBit j||decide (i=j)):=fun j=>by
    show(d|||2^i).testBit j=_
    rw[Nat.testBit_or,Nat.testBit_two_pow]
  have mono:∀m,subM m d=true→subM m (Nat.lor d (Nat.pow 2 i))=true:=fun m hm=>by
    have e:m&&&d=m:=Nat.eq_of_beq_eq_true hm
    show Nat.beq (m&&&(d|||2^i)) m=true
    have e2:m&&&(d|||2^i)=m:=by
      apply Nat.eq_of_testBit_eq
      intro k
      have h1:=congrArg (fun x=>x.testBit k) e
      simp only[Nat.testBit_and] at h1
      rw[Nat.testBit_and,Nat.testBit_or]
      cases hm:m.testBit k<;>cases hd:d.testBit k<;>simp_all
    rw[e2];exact Nat.beq_refl m
  refine⟨by simp[h.size],fun j hj=>?_,fun j hj hd=>?_⟩
  · rw[hb]
    by_cases e:i=j
    · subst e
      simp[h.size,hj]
    · rw[getD_set_ne true e,h.at_ j hj];simp[e]
  · rw[hb,Bool.or_eq_true] at hd
    rcases hd with hd|hd
    · exact mono _ (h.closed j hj hd)
    · have:i=j:=by simpa using hd
      subst this
      exact mono _ hs
theorem plan_steps {L:List Oper} {E:Nat} (hsel:Region.noSelect L.toArray=true) (hback:backB 0 L=true) (hap:apartAll L.toArray (befs [] L) L 0 L=true)
    (hQ:∀c a w (d:Nat) v,Q (.panic c) (a.put (some d) v) w→Q (.panic c) a w):
    ∀(order:List (Nat × Kd)) (d fuel:Nat) (listed:Array Bool) (a:Act) (w:World),stepsB L.length (befs [] L) E order d=true→Lst L d listed→order.length≤fuel→wpP P L.toArray Q order a w→
      wpM P .any L.toArray (fun j=>Nat.testBit E j) Q fuel listed a w
  |[],d,fuel,listed,a,w,hs,hl,_,h=>by
    refine wpM_done ?_ h fuel
    have hd:d=2^L.length-1:=Nat.eq_of_beq_eq_true hs
    apply List.eq_nil_iff_forall_not_mem.2
    intro j hj
    obtain⟨hun,o,ho,_⟩:=mem_ready.1 hj
    have hlt:j<L.length:=by simpa using (Array.getElem?_eq_some_iff.1 ho).1
    rw[hl.at_ j hlt,hd,Nat.testBit_two_pow_sub_one] at hun
    simp[hlt] at hun
  |(i,k)::rest,d,fuel,listed,a,w,hs,hl,hf,h=>by
    obtain⟨fuel,rfl⟩:∃f,fuel=f+1:=⟨fuel-1,by simp at hf;omega⟩
    simp only[stepsB,Bool.and_eq_true] at hs
    obtain⟨⟨⟨⟨hlt',hnd⟩,hsub⟩,hk⟩,hrest⟩:=hs
    have hlt:i<L.length:=Nat.le_of_ble_eq_true hlt'
    have hnd':d.testBit i=false:=by simpa using hnd
    have hoi:L[i]? =some L[i]:=by simp[hlt]
    have hoa:L.toArray[i]? =some L[i]:=by simpa using hoi
    have hl':=hl.put hlt hsub
    have dir:∀e ∈ L[i].after,Region.binds .any e=true→listed.getD e.on false=true:=fun e he hb=>by
      have h1:=backB_spec L 0 hback i _ hoi e he hb
      rw[Nat.zero_add] at h1
      have h2:=subM_spec hsub (bef_direct hoi he hb h1)
      have h3:=hl.at_ e.on Om
      rw[h2] at h3
      have:e.on<listed.size:=by rw[hl.size];omega
      simpa [this] using h3
    have hready:i ∈ Region.ready .any L.toArray listed:=mem_ready.2 ⟨by rw[hl.at_ i hlt];exact hnd',_,hoa,dir⟩
    have isz:L.toArray.size=L.length:=Oi
    have nb:NB .any L.toArray listed i L[i] (fun j=>j=i∨(nthN j (befs [] L)).testBit i=true):=by
      refine⟨fun j hj hb=>?_,fun j oj hj hb hne=>?_,fun j oj hj hun hb=>?_⟩
      · rw[isz] at hj
        rw[hl.at_ j hj]
        rcases hb with rfl|hb
        · exact hnd'
        · cases hd:d.testBit j with
          |false=>rfl
          |true=>rw[subM_spec (hl.closed j hj hd) hb] at hnd';cases hnd'
      · have hj':L[j]? =some oj:=by simpa using hj
        rcases hb with rfl|hb
        · exact(hne rfl).elim
        · obtain⟨e,he,hbi,hle,hor⟩:=bef_chain hj' hb
          have:j<L.length:=by
            rcases Nat.lt_or_ge j L.length with h'|h'
            · exact h'
            · simp[List.getElem?_eq_none h'] at hj'
          exact⟨e,he,hbi,hor,by rw[isz];omega⟩
      · have hj':L[j]? =some oj:=by simpa using hj
        have hjl:j<L.length:=by
          rcases Nat.lt_or_ge j L.length with h'|h'
          · exact h'
          · simp[List.getElem?_eq_none h'] at hj'
        have h1:=apartAll_spec L 0 hap i _ hoi
        rw[Nat.zero_add] at h1
        have h2:=apartB_spec L 0 h1 j oj hj'
        simp only[Nat.zero_add] at h2
        rcases h2 with h2|h2|h2|h2
        · exact(hb (.inr h2)).elim
        · rw[hl.at_ j hjl,subM_spec hsub h2] at hun;cases hun
        · exact(hb (.inl h2)).elim
        · exact h2
    cases k with
    |y=>
      obtain⟨o,v,ho,hy,hw⟩:=h
      have:o=L[i]:=Option.some.inj (ho.symm.trans hoa)
      subst this
      have hE:Nat.testBit E i=false:=by simpa using hk
      refine wpM_pure hoa (Region.noSelect_spec hsel) hE ?_ fuel listed a w nb hready hy (plan_steps hsel hback hap hQ rest _ fuel _ _ w hrest hl' (by simp at hf;omega) hw)
      intro c a w hq
      cases hd:L[i].dst with
      |none=>rw[hd] at hq;exact hq
      |some d'=>rw[hd] at hq;exact hQ c a w d' v hq
    |r=>
      obtain⟨o,v,ho,hy,hw⟩:=h
      have:o=L[i]:=Option.some.inj (ho.symm.trans hoa)
      subst this
      rw[Bool.and_eq_true] at hk
      have hE:Nat.testBit E i=false:=by simpa using hk.1
      refine wpM_read hoa (Region.noSelect_spec hsel) hE (.inl rfl) fuel listed a w nb ?_ hready hy (plan_steps hsel hback hap hQ rest _ fuel _ _ w hrest hl' (by simp at hf;omega) hw)
      intro j hj hun hEj
      rw[isz] at hj
      have h1:=allFrom_spec _ _ hk.2 j Om Om
      rw[hl.at_ j hj] at hun
      simp only[hun,hEj,Bool.not_true,Bool.false_or] at h1
      exact .inr h1
    |e=>
      rw[Bool.and_eq_true] at hk
      refine wpM_only hready ?_ hk.1 (wpOp_mono (fun a' w' h'=>plan_steps hsel hback hap hQ rest _ fuel _ a' w' hrest hl' (by simp at hf;omega) h') h)
      intro j hj
      refine Classical.byContradiction fun hne=>nb.notReady hj hne ?_
      obtain⟨hun,oj,hoj,_⟩:=mem_ready.1 hj
      have hjl:j<L.length:=by simpa using (Array.getElem?_eq_some_iff.1 hoj).1
      have h1:=allFrom_spec _ _ hk.2 j Om Om
      rw[hl.at_ j hjl] at hun
      have hne':(j==i)=false:=by simpa using hne
      simp only[hun,hne',Bool.false_or] at h1
      exact .inr h1
theorem plan_sound {L:List Oper} {id:Nat} (E:Nat) (order:List (Nat × Kd)) (hm:P.follows .mixedOrders=true) (hB:planB L E order=true)
    (hQ:∀c a w (d:Nat) v,Q (.panic c) (a.put (some d) v) w→Q (.panic c) a w) {a:Act} {w:World} (h:wpP P L.toArray Q order a w.drew):(Code.region id L.toArray true).wp P Q a w:=by
  simp only[planB,Bool.and_eq_true] at hB
  obtain⟨⟨⟨⟨h1,h0⟩,h2⟩,h3⟩,h4⟩:=hB
  have h0':order.length≤L.length:=Nat.le_of_ble_eq_true h0
  refine wp_region_M (E:=fun j=>Nat.testBit E j) hm ?_
  have hl:Lst L 0 (Array.replicate L.toArray.size false):=⟨Oi,fun j hj=>by simp[hj],fun j hj hd=>by simp at hd⟩
  have:=plan_steps (P:=P) h1 h2 h3 hQ order 0 L.toArray.size _ a w.drew h4 hl (by simpa using h0') h
  exact this
end
abbrev Fram:=List (Nat × Value)
def look (t:Nat):Fram→Option Value
  |[]=>none
  |p::ρ=>bif Nat.beq p.1 t then some p.2 else look t ρ
def ev (ρ:Fram):Operand→Option Value
  | .tmp t=>look t ρ
  | .const v=>some v
  | .global g=>some (.pointer (some ⟨g,0,none⟩))
  | .func f=>some (.func (.func f) #[] #[])
def FrOK (ρ:Fram) (a:Act):Prop:=∀t v,look t ρ=some v→a.tmps[t]? =some v
theorem ev_ok {ρ:Fram} {a:Act} (h:FrOK ρ a) {x:Operand} {v:Value} (hx:ev ρ x=some v):a.eval x=v:=by
  cases x with
  |tmp t=>simp[Act.eval,h t v hx]
  |const u=>exact Option.some.inj hx
  |global g=>exact Option.some.inj hx
  |func f=>exact Option.some.inj hx
theorem FrOK.put {ρ:Fram} {a:Act} (h:FrOK ρ a) {d:Nat} (hd:d<a.tmps.size) (v:Value):FrOK ((d,v)::ρ) (a.put (some d) v):=by
  intro t u ht
  simp only[look,cond_eq_ite] at ht
  simp only[Act.put]
  by_cases e:d=t
  · subst e
    simp at ht
    simp[hd,ht]
  · have hb:Nat.beq d t=false:=by
      cases hb:Nat.beq d t with
      |false=>rfl
      |true=>exact absurd (Nat.eq_of_beq_eq_true hb) e
    simp[hb] at ht
    rw[Array.getElem?_setIfInBounds_ne e]
    exact h t u ht
def Sub (ρ' ρ:Fram):Prop:=match ρ' with
  |[]=>True
  |p::q=>look p.1 ρ=some p.2∧Sub q ρ
theorem Sub.ok {ρ ρ':Fram} (h:Sub ρ' ρ) {a:Act} (ha:FrOK ρ a):FrOK ρ' a:=by
  induction ρ' with
  |nil=>intro t v ht;simp[look] at ht
  |cons p q ih=>
    intro t v ht
    simp only[look,cond_eq_ite] at ht
    by_cases e:Nat.beq p.1 t=true
    · have e':p.1=t:=Nat.eq_of_beq_eq_true e
      rw[if_pos e] at ht
      rw[←e', ←Option.some.inj ht]
      exact ha _ _ h.1
    · rw[if_neg e] at ht
      exact ih h.2 t v ht
structure Kx where
  n:Nat
  l0:List Seg
  w0:World
def Own (K:Kx) (l:List Seg):Prop:=∀s ∈ l,∀b j:Nat,s.has b j→(∃t ∈ K.l0,t.has b j)∨K.w0.heap.size≤b
structure At (K:Kx) (ρ:Fram) (l r:List Seg) (a:Act) (w:World):Prop where
  size:a.tmps.size=K.n
  defers:a.defers=[]
  fr:FrOK ρ a
  keeps:Keeps K.l0 K.w0 w
  st:St l r w
  own:Own K l
theorem St.drew {l r:List Seg} {w:World} (h:St l r w):St l r w.drew:=⟨h.hl,h.hr,h.pw,h.lr⟩
theorem At.drew {K:Kx} {ρ:Fram} {l r:List Seg} {a:Act} {w:World} (h:At K ρ l r a w):At K ρ l r a w.drew:=
  ⟨h.size,h.defers,h.fr,⟨h.keeps.os,h.keeps.tape,h.keeps.output,h.keeps.size,h.keeps.cells,h.keeps.other⟩,h.st.drew,h.own⟩
theorem At.put {K:Kx} {ρ:Fram} {l r:List Seg} {a:Act} {w:World} (h:At K ρ l r a w) {d:Nat} (hd:Nat.blt d K.n=true) (v:Value):At K ((d,v)::ρ) l r (a.put (some d) v) w:=
  ⟨by simp[Act.put,h.size],h.defers,h.fr.put (by rw[h.size];exact Nat.le_of_ble_eq_true hd) v,h.keeps,h.st,h.own⟩
theorem At.sub {K:Kx} {ρ ρ':Fram} {l r:List Seg} {a:Act} {w:World} (h:At K ρ l r a w) (hs:Sub ρ' ρ):At K ρ' l r a w:=
  ⟨h.size,h.defers,hs.ok h.fr,h.keeps,h.st,h.own⟩
section
variable (P:Program) (K:Kx) (Q:Exit→Act→World→Prop)
def G (c:Code) (ρ:Fram) (l r:List Seg):Prop:=∀a w,At K ρ l r a w→c.wp P Q a w
def GQ (e:Exit) (ρ:Fram) (l r:List Seg):Prop:=∀a w,At K ρ l r a w→Q e a w
def GL (L rest:List Oper) (ρ:Fram) (l r:List Seg):Prop:=∀a w,At K ρ l r a w→wpList P L.toArray Q rest a w
def GP (L:List Oper) (order:List (Nat × Kd)) (ρ:Fram) (l r:List Seg):Prop:=∀a w,At K ρ l r a w→wpP P L.toArray Q order a w
end
section
variable {P:Program} {K:Kx} {Q:Exit→Act→World→Prop} {ρ:Fram} {l r:List Seg}
theorem G.seq {x y:Code} (h:G P K (Exit.then (y.wp P Q) Q) x ρ l r):G P K Q (.seq x y) ρ l r:=fun a w ha=>wp_seq (h a w ha)
theorem G.block {id:Nat} {c:Code} (h:G P K (Exit.inBlock id Q) c ρ l r):G P K Q (.block id c) ρ l r:=fun a w ha=>wp_block (h a w ha)
theorem G.skip (h:GQ K Q .normal ρ l r):G P K Q .skip ρ l r:=fun a w ha=>wp_skip (h a w ha)
theorem G.ret (h:GQ K Q .ret ρ l r):G P K Q .ret ρ l r:=fun a w ha=>wp_ret (h a w ha)
theorem G.exit {id:Nat} (h:GQ K Q (.exit id) ρ l r):G P K Q (.exit id) ρ l r:=fun a w ha=>wp_exit (h a w ha)
theorem G.cond {c:Operand} {x y:Code} {t:Bool} (hc:ev ρ c=some (.bool t)) (ht:t=true→G P K Q x ρ l r) (hf:t=false→G P K Q y ρ l r):G P K Q (.cond c x y) ρ l r:=
  fun a w ha=>wp_cond_split (ev_ok ha.fr hc) (fun h=>ht h a w ha) (fun h=>hf h a w ha)
theorem G.condD {c:Operand} {x y:Code} {p:Prop} [Decidable p] (hc:ev ρ c=some (.bool (decide p))) (ht:p→G P K Q x ρ l r) (hf:¬p→G P K Q y ρ l r):G P K Q (.cond c x y) ρ l r:=
  G.cond hc (fun h=>ht (of_decide_eq_true h)) (fun h=>hf (of_decide_eq_false h))
theorem G.condT {c:Operand} {x y:Code} (hc:ev ρ c=some (.bool true)) (h:G P K Q x ρ l r):G P K Q (.cond c x y) ρ l r:=G.cond hc (fun _=>h) (fun e=>by cases e)
theorem G.condF {c:Operand} {x y:Code} (hc:ev ρ c=some (.bool false)) (h:G P K Q y ρ l r):G P K Q (.cond c x y) ρ l r:=G.cond hc (fun e=>by cases e) (fun _=>h)
theorem G.condDT {c:Operand} {x y:Code} {p:Prop} [Decidable p] (hc:ev ρ c=some (.bool (decide p))) (hp:p) (h:G P K Q x ρ l r):G P K Q (.cond c x y) ρ l r:=G.condD hc (fun _=>h) (fun e=>(e hp).elim)
theorem G.condDF {c:Operand} {x y:Code} {p:Prop} [Decidable p] (hc:ev ρ c=some (.bool (decide p))) (hp:¬p) (h:G P K Q y ρ l r):G P K Q (.cond c x y) ρ l r:=G.condD hc (fun e=>(hp e).elim) (fun _=>h)
theorem G.region {id:Nat} {L:List Oper} (h:GL P K Q L L ρ l r):G P K Q (.region id L.toArray false) ρ l r:=fun a w ha=>wp_region_lit (h a w ha)
theorem G.plan {id:Nat} {L:List Oper} (E:Nat) (order:List (Nat × Kd)) (hm:P.follows .mixedOrders=true) (hB:planB L E order=true) (hQ:∀c a w (d:Nat) v,Q (.panic c) (a.put (some d) v) w→Q (.panic c) a w) (h:GP P K Q L order ρ l r):G P K Q (.region id L.toArray true) ρ l r:=
  fun a w ha=>plan_sound E order hm hB hQ (h a w.drew ha.drew)
theorem GQ.thenN {y:Code} (h:G P K Q y ρ l r):GQ K (Exit.then (y.wp P Q) Q) .normal ρ l r:=h
theorem GQ.thenR {X:Act→World→Prop} (h:GQ K Q .ret ρ l r):GQ K (Exit.then X Q) .ret ρ l r:=h
theorem GQ.thenE {X:Act→World→Prop} {id:Nat} (h:GQ K Q (.exit id) ρ l r):GQ K (Exit.then X Q) (.exit id) ρ l r:=h
theorem GQ.blockN {id:Nat} (h:GQ K Q .normal ρ l r):GQ K (Exit.inBlock id Q) .normal ρ l r:=h
theorem GQ.blockR {id:Nat} (h:GQ K Q .ret ρ l r):GQ K (Exit.inBlock id Q) .ret ρ l r:=h
theorem GQ.blockE {id:Nat} (h:GQ K Q .normal ρ l r):GQ K (Exit.inBlock id Q) (.exit id) ρ l r:=fun a w ha=>by simp only[Exit.inBlock,if_true];exact h a w ha
theorem GQ.blockO {id id':Nat} (hne:Nat.beq id' id=false) (h:GQ K Q (.exit id') ρ l r):GQ K (Exit.inBlock id Q) (.exit id') ρ l r:=
  fun a w ha=>by simp only[Exit.inBlock,if_neg (Nat.ne_of_beq_eq_false hne)];exact h a w ha
def Back (K:Kx) (I:Nat→Fram→List Seg→Prop) (r:List Seg) (n:Nat) (a:Act) (w:World):Prop:=∃m,m<n∧∃ρ l,I m ρ l∧At K ρ l r a w
theorem G.loop {c:Code} (I:Nat→Fram→List Seg→Prop) {n:Nat} {ρ0:Fram} (h0:I n ρ0 l) (hs:Sub ρ0 ρ)
    (h:∀n ρ l,I n ρ l→G P K (Exit.then (Back K I r n) Q) c ρ l r):G P K Q (.loop c) ρ l r:=by
  intro a w ha
  refine wp_loop (fun a w=>∃n,Back K I r n a w) (fun a w=>Classical.epsilon fun n=>(∃ρ l,I n ρ l∧At K ρ l r a w)∧∀m,(∃ρ l,I m ρ l∧At K ρ l r a w)→n≤m) ⟨n+1,n,Nat.lt_succ_self _,ρ0,l,h0,ha.sub hs⟩ ?_
  intro a w ⟨_,m,_,ρ,l,hI,hA⟩
  have least:∀(a:Act) (w:World) (m:Nat),(∃ρ l,I m ρ l∧At K ρ l r a w)→∃n,(∃ρ l,I n ρ l∧At K ρ l r a w)∧∀m,(∃ρ l,I m ρ l∧At K ρ l r a w)→n≤m:=by
    intro a w m
    induction m using Nat.strongRecOn with
    |_ m ih=>
      intro hm
      by_cases hx:∃k,k<m∧∃ρ l,I k ρ l∧At K ρ l r a w
      · obtain⟨k,hk,hk2⟩:=hx
        exact ih k hk hk2
      · exact⟨m,hm,fun k hk=>Nat.le_of_not_lt fun hlt=>hx ⟨k,hlt,hk⟩⟩
  have e1:=Classical.epsilon_spec (least a w m ⟨ρ,l,hI,hA⟩)
  generalize hN:(Classical.epsilon fun n=>(∃ρ l,I n ρ l∧At K ρ l r a w)∧∀m,(∃ρ l,I m ρ l∧At K ρ l r a w)→n≤m)=N at*
  obtain⟨⟨ρ1,l1,hI1,hA1⟩,_⟩:=e1
  refine wp_mono (h N ρ1 l1 hI1 a w hA1) ?_
  intro e a' w' hq
  cases e with
  |normal=>
    obtain⟨m',hm',ρ',l',hI',hA'⟩:=hq
    refine⟨⟨N,m',hm',ρ',l',hI',hA'⟩,?_⟩
    have e2:=Classical.epsilon_spec (least a' w' m' ⟨ρ',l',hI',hA'⟩)
    have:=e2.2 m' ⟨ρ',l',hI',hA'⟩
    show _<N
    omega
  |_=>exact hq
theorem GQ.back {I:Nat→Fram→List Seg→Prop} {n m:Nat} {ρ':Fram} (hm:m<n) (hI:I m ρ' l) (hs:Sub ρ' ρ):GQ K (Exit.then (Back K I r n) Q) .normal ρ l r:=
  fun a w ha=>⟨m,hm,ρ',l,hI,ha.sub hs⟩
theorem GQ.meet {M:Fram→List Seg→Prop} {ρ':Fram} (hM:M ρ' l) (hs:Sub ρ' ρ):GQ K (Exit.then (fun a w=>∃ρ l,M ρ l∧At K ρ l r a w) Q) .normal ρ l r:=
  fun a w ha=>⟨ρ',l,hM,ha.sub hs⟩
def OpY (P:Program) (ρ:Fram) (o:Oper) (v:Value):Prop:=∀a,FrOK ρ a→∀w,(execOp a.eval o).run P w=.ok (.value v) w
def OpR (P:Program) (ρ:Fram) (l r:List Seg) (o:Oper) (v:Value):Prop:=∀a w,FrOK ρ a→St l r w→(execOp a.eval o).run P w=.ok (.value v) w
def Eff (P:Program) (K:Kx) (ρ:Fram) (l r:List Seg) (o:Oper) (N:Fram→List Seg→Prop):Prop:=
  ∀a w,At K ρ l r a w→∀(nx:Act→World→Prop) (Q:Exit→Act→World→Prop),(∀a' w',(∃ρ' l',N ρ' l'∧At K ρ' l' r a' w')→nx a' w')→o.wp P a w nx Q
def want (L:List Oper) (ρ:Fram) (o:Oper):Option Bool:=
  match o.guard with
  |none=>some true
  |some (j,b)=>match (nth j L).bind (·.dst) with
    |some t=>match look t ρ with
      |some (.bool b')=>some (match b',b with|true,true=>true|false,false=>true|_,_=>false)
      |_=>none
    |none=>none
theorem want_ok {L:List Oper} {ρ:Fram} {o:Oper} {b:Bool} (h:want L ρ o=some b) {a:Act} (ha:FrOK ρ a):Region.wanted o (yielded L.toArray a.tmps)=b:=by
  unfold want at h
  unfold Region.wanted
  cases hg:o.guard with
  |none=>simp only[hg] at h ⊢;exact Option.some.inj h
  |some p=>
    obtain⟨j,b0⟩:=p
    simp only[hg] at h ⊢
    unfold yielded
    cases hj:nth j L with
    |none=>simp[hj] at h
    |some oj=>
      rw[nth_arr hj]
      simp only[hj,Option.bind_some] at h ⊢
      cases hd:oj.dst with
      |none=>simp[hd] at h
      |some t=>
        simp only[hd,Option.bind_some] at h ⊢
        cases hl:look t ρ with
        |none=>simp[hl] at h
        |some v=>
          rw[ha t v hl]
          cases v<;>simp only[hl] at h<;>try (cases h)
          rename_i b'
          cases b'<;>cases b0<;>simp
end
section
variable {P:Program} {K:Kx} {Q:Exit→Act→World→Prop} {ρ:Fram} {l r:List Seg} {L rest:List Oper} {o:Oper} {d:Nat} {v:Value}
theorem OpY.toR (h:OpY P ρ o v):OpR P ρ l r o v:=fun a w ha _=>h a ha w
theorem GL.rd (h:OpR P ρ l r o v) (hw:want L ρ o=some true) (hd:o.dst=some d) (hn:Nat.blt d K.n=true) (k:GL P K Q L rest ((d,v)::ρ) l r):GL P K Q L (o::rest) ρ l r:=by
  intro a w ha
  unfold wpList
  rw[if_pos (want_ok hw ha.fr)]
  left
  unfold Oper.wp
  rw[h a w ha.fr ha.st]
  simp only[Oper.upon,hd]
  exact k _ _ (ha.put hn v)
theorem GL.y (h:OpY P ρ o v) (hw:want L ρ o=some true) (hd:o.dst=some d) (hn:Nat.blt d K.n=true) (k:GL P K Q L rest ((d,v)::ρ) l r):GL P K Q L (o::rest) ρ l r:=
  GL.rd h.toR hw hd hn k
theorem GL.skip (hw:want L ρ o=some false) (hd:o.dst=some d) (hn:Nat.blt d K.n=true) (k:GL P K Q L rest ((d,undef)::ρ) l r):GL P K Q L (o::rest) ρ l r:=by
  intro a w ha
  unfold wpList
  rw[if_neg (by rw[want_ok hw ha.fr];simp),hd]
  exact k _ _ (ha.put hn undef)
theorem GL.eff {N:Fram→List Seg→Prop} (h:Eff P K ρ l r o N) (hw:want L ρ o=some true) (k:∀ρ' l',N ρ' l'→GL P K Q L rest ρ' l' r):GL P K Q L (o::rest) ρ l r:=by
  intro a w ha
  unfold wpList
  rw[if_pos (want_ok hw ha.fr)]
  left
  exact h a w ha _ _ fun a' w' ⟨ρ',l',hN,hA⟩=>k ρ' l' hN a' w' hA
theorem GL.nil (h:GQ K Q .normal ρ l r):GL P K Q L [] ρ l r:=fun a w ha=>h a w ha
theorem At.know {a:Act} {w:World} {t:Nat} {b b':Bool} (h:At K ρ l r a w) (hl:look t ρ=some (.bool b)) (e:b=b'):At K ((t,.bool b')::ρ) l r a w:=by
  subst e
  refine⟨h.size,h.defers,fun u x hu=>?_,h.keeps,h.st,h.own⟩
  simp only[look,cond_eq_ite] at hu
  by_cases e:Nat.beq t u=true
  · rw[if_pos e] at hu
    rw[←Nat.eq_of_beq_eq_true e, ←Option.some.inj hu]
    exact h.fr _ _ hl
  · rw[if_neg e] at hu;exact h.fr _ _ hu
theorem GL.split {t:Nat} {p:Prop} [Decidable p] (hl:look t ρ=some (.bool (decide p))) (h1:p→GL P K Q L rest ((t,.bool true)::ρ) l r) (h2:¬p→GL P K Q L rest ((t,.bool false)::ρ) l r):GL P K Q L rest ρ l r:=by
  intro a w ha
  by_cases hp:p
  · exact h1 hp a w (ha.know hl (decide_eq_true hp))
  · exact h2 hp a w (ha.know hl (decide_eq_false hp))
theorem GL.splitB {t:Nat} {b:Bool} (hl:look t ρ=some (.bool b)) (h1:b=true→GL P K Q L rest ((t,.bool true)::ρ) l r) (h2:b=false→GL P K Q L rest ((t,.bool false)::ρ) l r):GL P K Q L rest ρ l r:=by
  intro a w ha
  cases b with
  |true=>exact h1 rfl a w (ha.know hl rfl)
  |false=>exact h2 rfl a w (ha.know hl rfl)
theorem GL.knowT {t:Nat} {p:Prop} [Decidable p] (hl:look t ρ=some (.bool (decide p))) (hp:p) (h1:GL P K Q L rest ((t,.bool true)::ρ) l r):GL P K Q L rest ρ l r:=GL.split hl (fun _=>h1) (fun h=>(h hp).elim)
theorem GL.knowF {t:Nat} {p:Prop} [Decidable p] (hl:look t ρ=some (.bool (decide p))) (hp:¬p) (h1:GL P K Q L rest ((t,.bool false)::ρ) l r):GL P K Q L rest ρ l r:=GL.split hl (fun h=>(hp h).elim) (fun _=>h1)
variable {i:Nat} {os:List (Nat × Kd)}
theorem GP.y (h:OpY P ρ o v) (hi:nth i L=some o) (hw:want L ρ o=some true) (hd:o.dst=some d) (hn:Nat.blt d K.n=true) (k:GP P K Q L os ((d,v)::ρ) l r):GP P K Q L ((i,.y)::os) ρ l r:=
  fun a w ha=>⟨o,v,nth_arr hi,.inl ⟨want_ok hw ha.fr,fun w'=>h a ha.fr w'⟩,by rw[hd];exact k _ _ (ha.put hn v)⟩
theorem GP.skip (hi:nth i L=some o) (hw:want L ρ o=some false) (hd:o.dst=some d) (hn:Nat.blt d K.n=true) (k:GP P K Q L os ((d,undef)::ρ) l r):GP P K Q L ((i,.y)::os) ρ l r:=
  fun a w ha=>⟨o,undef,nth_arr hi,.inr ⟨want_ok hw ha.fr,rfl⟩,by rw[hd];exact k _ _ (ha.put hn undef)⟩
theorem GP.skipr (hi:nth i L=some o) (hw:want L ρ o=some false) (hd:o.dst=some d) (hn:Nat.blt d K.n=true) (k:GP P K Q L os ((d,undef)::ρ) l r):GP P K Q L ((i,.r)::os) ρ l r:=
  fun a w ha=>⟨o,undef,nth_arr hi,.inr ⟨want_ok hw ha.fr,rfl⟩,by rw[hd];exact k _ _ (ha.put hn undef)⟩
theorem GP.rd (h:OpR P ρ l r o v) (hi:nth i L=some o) (hw:want L ρ o=some true) (hd:o.dst=some d) (hn:Nat.blt d K.n=true) (k:GP P K Q L os ((d,v)::ρ) l r):GP P K Q L ((i,.r)::os) ρ l r:=
  fun a w ha=>⟨o,v,nth_arr hi,.inl ⟨want_ok hw ha.fr,.inl (h a w ha.fr ha.st)⟩,by rw[hd];exact k _ _ (ha.put hn v)⟩
theorem GP.eff {N:Fram→List Seg→Prop} (h:Eff P K ρ l r o N) (hi:nth i L=some o) (hw:want L ρ o=some true) (k:∀ρ' l',N ρ' l'→GP P K Q L os ρ' l' r):GP P K Q L ((i,.e)::os) ρ l r:=by
  intro a w ha
  show wpOp P L.toArray Q i (wpP P L.toArray Q os) a w
  unfold wpOp
  rw[nth_arr hi]
  simp only[]
  rw[if_pos (want_ok hw ha.fr)]
  left
  exact h a w ha _ _ fun a' w' ⟨ρ',l',hN,hA⟩=>k ρ' l' hN a' w' hA
theorem GP.nil (h:GQ K Q .normal ρ l r):GP P K Q L [] ρ l r:=fun a w ha=>h a w ha
theorem GP.split {t:Nat} {p:Prop} [Decidable p] (hl:look t ρ=some (.bool (decide p))) (h1:p→GP P K Q L os ((t,.bool true)::ρ) l r) (h2:¬p→GP P K Q L os ((t,.bool false)::ρ) l r):GP P K Q L os ρ l r:=by
  intro a w ha
  by_cases hp:p
  · exact h1 hp a w (ha.know hl (decide_eq_true hp))
  · exact h2 hp a w (ha.know hl (decide_eq_false hp))
section
variable {x y z:Operand} {ty ty':TypeId} {k:IntKind} {a b:Int} {m n:Nat} {u:Value}
theorem y_mv (ho:o.op=.move x) (hx:ev ρ x=some v):OpY P ρ o v:=fun ac ha w=>by simp[execOp,ho,ev_ok ha hx]
theorem y_as (ho:o.op=.assign x) (hx:ev ρ x=some v):OpY P ρ o v:=fun ac ha w=>by simp[execOp,ho,ev_ok ha hx]
theorem y_pickT (ho:o.op=.pick x y z) (hx:ev ρ x=some (.bool true)) (hy:ev ρ y=some v):OpY P ρ o v:=fun ac ha w=>by simp[execOp,ho,ev_ok ha hx,ev_ok ha hy,asBool]
theorem y_pickF (ho:o.op=.pick x y z) (hx:ev ρ x=some (.bool false)) (hz:ev ρ z=some v):OpY P ρ o v:=fun ac ha w=>by simp[execOp,ho,ev_ok ha hx,ev_ok ha hz,asBool]
theorem y_nc {p:Addr} (ho:o.op=.nilCheck x) (hx:ev ρ x=some (.pointer (some p))):OpY P ρ o (.pointer (some p)):=fun ac ha w=>by simp[execOp,ho,ev_ok ha hx]
theorem y_ex {vs:Array Value} {i:Nat} (ho:o.op=.extract x i) (hx:ev ρ x=some (.tuple vs)) (hv:vs[i]? =some v):OpY P ρ o v:=fun ac ha w=>by
  simp[execOp,ho,ev_ok ha hx,Instr.extract,hv]
theorem bin_run {bo:BinOp} (ho:o.op=.binOp bo ty x y ty') (hx:ev ρ x=some (.int k a)) (hy:ev ρ y=some (.int k b)) (h:∀w,(binOp bo ty (.int k a) (.int k b)).run P w=.ok u w):OpY P ρ o u:=fun ac ha w=>by
  have e:(eqGuard bo ty x y (.int k a) (.int k b))=pure ():=by unfold eqGuard;split<;>rfl
  simp[execOp,ho,ev_ok ha hx,ev_ok ha hy,e,h]
theorem y_add (ho:o.op=.binOp .add ty x y ty') (hx:ev ρ x=some (.int k a)) (hy:ev ρ y=some (.int k b)):OpY P ρ o (.int k (k.wrap (a+b))):=bin_run ho hx hy fun w=>by simp[binOp,Op.intArith]
theorem y_sub (ho:o.op=.binOp .sub ty x y ty') (hx:ev ρ x=some (.int k a)) (hy:ev ρ y=some (.int k b)):OpY P ρ o (.int k (k.wrap (a-b))):=bin_run ho hx hy fun w=>by simp[binOp,Op.intArith]
theorem y_mul (ho:o.op=.binOp .mul ty x y ty') (hx:ev ρ x=some (.int k a)) (hy:ev ρ y=some (.int k b)):OpY P ρ o (.int k (k.wrap (a*b))):=bin_run ho hx hy fun w=>by simp[binOp,Op.intArith]
theorem y_lt (ho:o.op=.binOp .lss ty x y ty') (hx:ev ρ x=some (.int k a)) (hy:ev ρ y=some (.int k b)):OpY P ρ o (.bool (decide (a<b))):=bin_run ho hx hy fun w=>by simp[binOp,Op.intCmp]
theorem y_le (ho:o.op=.binOp .leq ty x y ty') (hx:ev ρ x=some (.int k a)) (hy:ev ρ y=some (.int k b)):OpY P ρ o (.bool (decide (a≤b))):=bin_run ho hx hy fun w=>by simp[binOp,Op.intCmp]
theorem y_gt (ho:o.op=.binOp .gtr ty x y ty') (hx:ev ρ x=some (.int k a)) (hy:ev ρ y=some (.int k b)):OpY P ρ o (.bool (decide (b<a))):=bin_run ho hx hy fun w=>by simp[binOp,Op.intCmp]
theorem y_ge (ho:o.op=.binOp .geq ty x y ty') (hx:ev ρ x=some (.int k a)) (hy:ev ρ y=some (.int k b)):OpY P ρ o (.bool (decide (b≤a))):=bin_run ho hx hy fun w=>by simp[binOp,Op.intCmp]
theorem y_eq (ho:o.op=.binOp .eql ty x y ty') (hx:ev ρ x=some (.int k a)) (hy:ev ρ y=some (.int k b)):OpY P ρ o (.bool (decide (a=b))):=bin_run ho hx hy fun w=>by simp[binOp,Op.intCmp];rfl
theorem y_ne (ho:o.op=.binOp .neq ty x y ty') (hx:ev ρ x=some (.int k a)) (hy:ev ρ y=some (.int k b)):OpY P ρ o (.bool (decide (a≠b))):=bin_run ho hx hy fun w=>by
  simp[binOp,Op.intCmp,bne]
  by_cases h:a=b<;>simp[h]
end
end
section
variable {P:Program} {ρ:Fram} {o:Oper} {v:Value} {x y:Operand} {ty ty':TypeId} {k k':IntKind} {a b:Int} {m n:Nat}
theorem OpY.cast {u:Value} (h:OpY P ρ o u) (e:u=v):OpY P ρ o v:=e▸h
theorem bits_run {bo:BinOp} {u:Value} (ho:o.op=.binOp bo ty x y ty') (hx:ev ρ x=some (.int k a)) (hy:ev ρ y=some (.int k b)) (h:∀w,(Op.intBits bo k a b).run P w=.ok u w) (hb:bo=.and∨bo=.or∨bo=.xor∨bo=.andNot):OpY P ρ o u:=
  bin_run ho hx hy fun w=>by rcases hb with rfl|rfl|rfl|rfl<;>simpa [binOp] using h w
theorem y_and0 (ho:o.op=.binOp .and ty x y ty') (hx:ev ρ x=some (.int k a)) (hy:ev ρ y=some (.int k b)):OpY P ρ o (.int k (k.wrap (BitVec.ofInt k.bits a&&&BitVec.ofInt k.bits b).toNat)):=bits_run ho hx hy (fun w=>by simp[Op.intBits]) Oi
theorem y_or0 (ho:o.op=.binOp .or ty x y ty') (hx:ev ρ x=some (.int k a)) (hy:ev ρ y=some (.int k b)):OpY P ρ o (.int k (k.wrap (BitVec.ofInt k.bits a|||BitVec.ofInt k.bits b).toNat)):=bits_run ho hx hy (fun w=>by simp[Op.intBits]) Oi
theorem y_shl0 (ho:o.op=.binOp .shl ty x y ty') (hx:ev ρ x=some (.int k a)) (hy:ev ρ y=some (.int k' (n:Nat))):OpY P ρ o (.int k (k.wrap (a*2^(min n k.bits)))):=fun ac ha w=>by
  have e:(eqGuard .shl ty x y (.int k a) (.int k' (n:Nat)))=pure ():=by unfold eqGuard;split<;>rfl
  simp[execOp,ho,ev_ok ha hx,ev_ok ha hy,e,binOp,Op.shift]
  intro h;omega
theorem y_shr0 (ho:o.op=.binOp .shr ty x y ty') (hx:ev ρ x=some (.int k a)) (hy:ev ρ y=some (.int k' (n:Nat))):OpY P ρ o (.int k (a.fdiv (2^(min n k.bits)))):=fun ac ha w=>by
  have e:(eqGuard .shr ty x y (.int k a) (.int k' (n:Nat)))=pure ():=by unfold eqGuard;split<;>rfl
  simp[execOp,ho,ev_ok ha hx,ev_ok ha hy,e,binOp,Op.shift]
  intro h;omega
theorem y_quo0 (ho:o.op=.binOp .quo ty x y ty') (hx:ev ρ x=some (.int k a)) (hy:ev ρ y=some (.int k b)) (hb:b≠0):OpY P ρ o (.int k (k.wrap (a.tdiv b))):=bin_run ho hx hy fun w=>by simp[binOp,Op.intDiv,hb]
theorem y_rem0 (ho:o.op=.binOp .rem ty x y ty') (hx:ev ρ x=some (.int k a)) (hy:ev ρ y=some (.int k b)) (hb:b≠0):OpY P ρ o (.int k (a.tmod b)):=bin_run ho hx hy fun w=>by simp[binOp,Op.intDiv,hb]
theorem y_not {p:Prop} [Decidable p] (ho:o.op=.unOp .not ty x) (hx:ev ρ x=some (.bool (decide p))):OpY P ρ o (.bool (decide (¬p))):=fun ac ha w=>by
  by_cases hp:p<;>simp[execOp,ho,ev_ok ha hx,Op.unary,hp]
theorem y_notB {b:Bool} (ho:o.op=.unOp .not ty x) (hx:ev ρ x=some (.bool b)):OpY P ρ o (.bool (!b)):=fun ac ha w=>by
  simp[execOp,ho,ev_ok ha hx,Op.unary]
theorem y_neg (ho:o.op=.unOp .neg ty x) (hx:ev ρ x=some (.int k a)):OpY P ρ o (.int k (k.wrap (-a))):=fun ac ha w=>by
  simp[execOp,ho,ev_ok ha hx,Op.unary,Op.intArith]
theorem y_cv0 {s t:TypeId} {D:TypeDesc} (ho:o.op=.convert s t x) (hs:P.underlying s=some D) (ht:P.underlying t=some (.int k')) (hx:ev ρ x=some (.int k a)):OpY P ρ o (.int k' (k'.wrap a)):=fun ac ha w=>by
  cases D<;>simp[execOp,ho,ev_ok ha hx,convert,underlying,hs,ht,Conv.intToInt]
theorem shr_nat (k:IntKind) (m n:Nat) (h:m<2^k.bits):((m:Nat):Int).fdiv (2^(min n k.bits))=((m/2^n:Nat):Int):=by
  have e:((2:Int)^(min n k.bits))=((2^(min n k.bits):Nat):Int):=Oi
  rw[e,Int.fdiv_eq_ediv_of_nonneg _ (Int.natCast_nonneg _), ←Int.natCast_ediv]
  congr 1
  rcases Nat.le_total n k.bits with h1|h1
  · rw[Nat.min_eq_left h1]
  · rw[Nat.min_eq_right h1,Nat.div_eq_of_lt h,Nat.div_eq_of_lt (Nat.lt_of_lt_of_le h (Nat.pow_le_pow_right Om h1))]
theorem bv_nat (b m:Nat) (h:m<2^b):(BitVec.ofInt b (m:Int)).toNat=m:=by
  rw[BitVec.ofInt_natCast,BitVec.toNat_ofNat,Nat.mod_eq_of_lt h]
end
section
variable {P:Program} {ρ:Fram} {o:Oper} {x y:Operand} {ty ty':TypeId} {k':IntKind} {a b:Int} {m n:Nat}
theorem subN_i8 (ho:o.op=.binOp .sub ty x y ty') (hx:ev ρ x=some (.int .i8 (m:Nat))) (hy:ev ρ y=some (.int .i8 (n:Nat))) (h:n≤m∧m≤127):OpY P ρ o (.int .i8 ((m-n:Nat):Int)):=(y_sub ho hx hy).cast (by
  have e:((m:Nat):Int)-((n:Nat):Int)=((m-n:Nat):Int):=Om
  rw[e,IntWalk.i8_in _ ⟨Om,Om⟩])
theorem cvN_i8 {s t:TypeId} {D:TypeDesc} {k:IntKind} (ho:o.op=.convert s t x) (hs:P.underlying s=some D) (ht:P.underlying t=some (.int .i8)) (hx:ev ρ x=some (.int k (m:Nat))) (h:m≤127):OpY P ρ o (.int .i8 ((m:Nat):Int)):=(y_cv0 ho hs ht hx).cast (by rw[IntWalk.i8_in _ ⟨Om,Om⟩])
theorem shlN_i16 (ho:o.op=.binOp .shl ty x y ty') (hx:ev ρ x=some (.int .i16 (m:Nat))) (hy:ev ρ y=some (.int k' (n:Nat))) (hn:n≤16) (h:m*2^n≤32767):OpY P ρ o (.int .i16 ((m*2^n:Nat):Int)):=(y_shl0 ho hx hy).cast (by
  have e:((m:Nat):Int)*2^(min n (IntKind.bits .i16))=((m*2^n:Nat):Int):=by
    rw[Nat.min_eq_left (by simpa [IntKind.bits] using hn)];simp
  rw[e,IntWalk.i16_in _ ⟨Om,Om⟩])
theorem cvN_i16 {s t:TypeId} {D:TypeDesc} {k:IntKind} (ho:o.op=.convert s t x) (hs:P.underlying s=some D) (ht:P.underlying t=some (.int .i16)) (hx:ev ρ x=some (.int k (m:Nat))) (h:m≤32767):OpY P ρ o (.int .i16 ((m:Nat):Int)):=(y_cv0 ho hs ht hx).cast (by rw[IntWalk.i16_in _ ⟨Om,Om⟩])
theorem addN_i32 (ho:o.op=.binOp .add ty x y ty') (hx:ev ρ x=some (.int .i32 (m:Nat))) (hy:ev ρ y=some (.int .i32 (n:Nat))) (h:m+n≤2147483647):OpY P ρ o (.int .i32 ((m+n:Nat):Int)):=(y_add ho hx hy).cast (by
  have e:((m:Nat):Int)+((n:Nat):Int)=((m+n:Nat):Int):=Oi
  rw[e,IntWalk.i32_in _ ⟨Om,Om⟩])
theorem mulN_i32 (ho:o.op=.binOp .mul ty x y ty') (hx:ev ρ x=some (.int .i32 (m:Nat))) (hy:ev ρ y=some (.int .i32 (n:Nat))) (h:m*n≤2147483647):OpY P ρ o (.int .i32 ((m*n:Nat):Int)):=(y_mul ho hx hy).cast (by
  have e:((m:Nat):Int)*((n:Nat):Int)=((m*n:Nat):Int):=Oi
  rw[e,IntWalk.i32_in _ ⟨Om,Om⟩])
theorem subN_i32 (ho:o.op=.binOp .sub ty x y ty') (hx:ev ρ x=some (.int .i32 (m:Nat))) (hy:ev ρ y=some (.int .i32 (n:Nat))) (h:n≤m∧m≤2147483647):OpY P ρ o (.int .i32 ((m-n:Nat):Int)):=(y_sub ho hx hy).cast (by
  have e:((m:Nat):Int)-((n:Nat):Int)=((m-n:Nat):Int):=Om
  rw[e,IntWalk.i32_in _ ⟨Om,Om⟩])
theorem shrN_i32 (ho:o.op=.binOp .shr ty x y ty') (hx:ev ρ x=some (.int .i32 (m:Nat))) (hy:ev ρ y=some (.int k' (n:Nat))) (h:m<4294967296):OpY P ρ o (.int .i32 ((m/2^n:Nat):Int)):=(y_shr0 ho hx hy).cast (by rw[shr_nat _ _ _ (by simpa [IntKind.bits] using h)])
theorem shlN_i32 (ho:o.op=.binOp .shl ty x y ty') (hx:ev ρ x=some (.int .i32 (m:Nat))) (hy:ev ρ y=some (.int k' (n:Nat))) (hn:n≤32) (h:m*2^n≤2147483647):OpY P ρ o (.int .i32 ((m*2^n:Nat):Int)):=(y_shl0 ho hx hy).cast (by
  have e:((m:Nat):Int)*2^(min n (IntKind.bits .i32))=((m*2^n:Nat):Int):=by
    rw[Nat.min_eq_left (by simpa [IntKind.bits] using hn)];simp
  rw[e,IntWalk.i32_in _ ⟨Om,Om⟩])
theorem addI_i64 (ho:o.op=.binOp .add ty x y ty') (hx:ev ρ x=some (.int .i64 a)) (hy:ev ρ y=some (.int .i64 b)) (h: -9223372036854775808≤a+b∧a+b≤9223372036854775807):OpY P ρ o (.int .i64 (a+b)):=(y_add ho hx hy).cast (by rw[IntWalk.i64_in _ h])
theorem subI_i64 (ho:o.op=.binOp .sub ty x y ty') (hx:ev ρ x=some (.int .i64 a)) (hy:ev ρ y=some (.int .i64 b)) (h: -9223372036854775808≤a-b∧a-b≤9223372036854775807):OpY P ρ o (.int .i64 (a-b)):=(y_sub ho hx hy).cast (by rw[IntWalk.i64_in _ h])
theorem addN_i64 (ho:o.op=.binOp .add ty x y ty') (hx:ev ρ x=some (.int .i64 (m:Nat))) (hy:ev ρ y=some (.int .i64 (n:Nat))) (h:m+n≤9223372036854775807):OpY P ρ o (.int .i64 ((m+n:Nat):Int)):=(y_add ho hx hy).cast (by
  have e:((m:Nat):Int)+((n:Nat):Int)=((m+n:Nat):Int):=Oi
  rw[e,IntWalk.i64_in _ ⟨Om,Om⟩])
theorem mulN_i64 (ho:o.op=.binOp .mul ty x y ty') (hx:ev ρ x=some (.int .i64 (m:Nat))) (hy:ev ρ y=some (.int .i64 (n:Nat))) (h:m*n≤9223372036854775807):OpY P ρ o (.int .i64 ((m*n:Nat):Int)):=(y_mul ho hx hy).cast (by
  have e:((m:Nat):Int)*((n:Nat):Int)=((m*n:Nat):Int):=Oi
  rw[e,IntWalk.i64_in _ ⟨Om,Om⟩])
theorem subN_i64 (ho:o.op=.binOp .sub ty x y ty') (hx:ev ρ x=some (.int .i64 (m:Nat))) (hy:ev ρ y=some (.int .i64 (n:Nat))) (h:n≤m∧m≤9223372036854775807):OpY P ρ o (.int .i64 ((m-n:Nat):Int)):=(y_sub ho hx hy).cast (by
  have e:((m:Nat):Int)-((n:Nat):Int)=((m-n:Nat):Int):=Om
  rw[e,IntWalk.i64_in _ ⟨Om,Om⟩])
theorem andN_i64 (ho:o.op=.binOp .and ty x y ty') (hx:ev ρ x=some (.int .i64 (m:Nat))) (hy:ev ρ y=some (.int .i64 (n:Nat))) (h:m<9223372036854775808∨n<9223372036854775808) (hm:m<18446744073709551616) (hn:n<18446744073709551616):OpY P ρ o (.int .i64 ((m&&&n:Nat):Int)):=(y_and0 ho hx hy).cast (by
  rw[BitVec.toNat_and,show IntKind.bits .i64=64 from rfl,bv_nat _ _ hm,bv_nat _ _ hn,IntWalk.i64_in _ ⟨Om,?_⟩]
  have h1:=@Nat.and_le_left m n
  have h2:=@Nat.and_le_right m n
  omega)
theorem orN_i64 (ho:o.op=.binOp .or ty x y ty') (hx:ev ρ x=some (.int .i64 (m:Nat))) (hy:ev ρ y=some (.int .i64 (n:Nat))) (hm:m<9223372036854775808) (hn:n<9223372036854775808):OpY P ρ o (.int .i64 ((m|||n:Nat):Int)):=(y_or0 ho hx hy).cast (by
  rw[BitVec.toNat_or,show IntKind.bits .i64=64 from rfl,bv_nat _ _ Om,bv_nat _ _ Om,IntWalk.i64_in _ ⟨Om,?_⟩]
  have h1:=Nat.or_lt_two_pow (n:=63) (x:=m) (y:=n) Om Om
  omega)
theorem shrN_i64 (ho:o.op=.binOp .shr ty x y ty') (hx:ev ρ x=some (.int .i64 (m:Nat))) (hy:ev ρ y=some (.int k' (n:Nat))) (h:m<18446744073709551616):OpY P ρ o (.int .i64 ((m/2^n:Nat):Int)):=(y_shr0 ho hx hy).cast (by rw[shr_nat _ _ _ (by simpa [IntKind.bits] using h)])
theorem shlN_i64 (ho:o.op=.binOp .shl ty x y ty') (hx:ev ρ x=some (.int .i64 (m:Nat))) (hy:ev ρ y=some (.int k' (n:Nat))) (hn:n≤64) (h:m*2^n≤9223372036854775807):OpY P ρ o (.int .i64 ((m*2^n:Nat):Int)):=(y_shl0 ho hx hy).cast (by
  have e:((m:Nat):Int)*2^(min n (IntKind.bits .i64))=((m*2^n:Nat):Int):=by
    rw[Nat.min_eq_left (by simpa [IntKind.bits] using hn)];simp
  rw[e,IntWalk.i64_in _ ⟨Om,Om⟩])
theorem quoN_i64 (ho:o.op=.binOp .quo ty x y ty') (hx:ev ρ x=some (.int .i64 (m:Nat))) (hy:ev ρ y=some (.int .i64 (n:Nat))) (h0:0<n) (hm:m≤9223372036854775807):OpY P ρ o (.int .i64 ((m/n:Nat):Int)):=(y_quo0 ho hx hy Om).cast (by
  rw[Int.tdiv_eq_ediv_of_nonneg Om, ←Int.natCast_ediv]
  have h1:=Nat.div_le_self m n
  generalize m/n=q at*
  rw[IntWalk.i64_in _ ⟨Om,Om⟩])
theorem remN_i64 (ho:o.op=.binOp .rem ty x y ty') (hx:ev ρ x=some (.int .i64 (m:Nat))) (hy:ev ρ y=some (.int .i64 (n:Nat))) (h0:0<n):OpY P ρ o (.int .i64 ((m%n:Nat):Int)):=(y_rem0 ho hx hy Om).cast (by rw[Int.tmod_eq_emod_of_nonneg Om, ←Int.natCast_emod])
theorem cvN_i64 {s t:TypeId} {D:TypeDesc} {k:IntKind} (ho:o.op=.convert s t x) (hs:P.underlying s=some D) (ht:P.underlying t=some (.int .i64)) (hx:ev ρ x=some (.int k (m:Nat))) (h:m≤9223372036854775807):OpY P ρ o (.int .i64 ((m:Nat):Int)):=(y_cv0 ho hs ht hx).cast (by rw[IntWalk.i64_in _ ⟨Om,Om⟩])
theorem addN_u8 (ho:o.op=.binOp .add ty x y ty') (hx:ev ρ x=some (.int .u8 (m:Nat))) (hy:ev ρ y=some (.int .u8 (n:Nat))) (h:m+n≤255):OpY P ρ o (.int .u8 ((m+n:Nat):Int)):=(y_add ho hx hy).cast (by
  have e:((m:Nat):Int)+((n:Nat):Int)=((m+n:Nat):Int):=Oi
  rw[e,IntWalk.u8_in _ ⟨Om,Om⟩])
theorem mulN_u8 (ho:o.op=.binOp .mul ty x y ty') (hx:ev ρ x=some (.int .u8 (m:Nat))) (hy:ev ρ y=some (.int .u8 (n:Nat))) (h:m*n≤255):OpY P ρ o (.int .u8 ((m*n:Nat):Int)):=(y_mul ho hx hy).cast (by
  have e:((m:Nat):Int)*((n:Nat):Int)=((m*n:Nat):Int):=Oi
  rw[e,IntWalk.u8_in _ ⟨Om,Om⟩])
theorem subN_u8 (ho:o.op=.binOp .sub ty x y ty') (hx:ev ρ x=some (.int .u8 (m:Nat))) (hy:ev ρ y=some (.int .u8 (n:Nat))) (h:n≤m∧m≤255):OpY P ρ o (.int .u8 ((m-n:Nat):Int)):=(y_sub ho hx hy).cast (by
  have e:((m:Nat):Int)-((n:Nat):Int)=((m-n:Nat):Int):=Om
  rw[e,IntWalk.u8_in _ ⟨Om,Om⟩])
theorem andN_u8 (ho:o.op=.binOp .and ty x y ty') (hx:ev ρ x=some (.int .u8 (m:Nat))) (hy:ev ρ y=some (.int .u8 (n:Nat))) (h:m<256∨n<256) (hm:m<256) (hn:n<256):OpY P ρ o (.int .u8 ((m&&&n:Nat):Int)):=(y_and0 ho hx hy).cast (by
  rw[BitVec.toNat_and,show IntKind.bits .u8=8 from rfl,bv_nat _ _ hm,bv_nat _ _ hn,IntWalk.u8_in _ ⟨Om,?_⟩]
  have h1:=@Nat.and_le_left m n
  have h2:=@Nat.and_le_right m n
  omega)
theorem orN_u8 (ho:o.op=.binOp .or ty x y ty') (hx:ev ρ x=some (.int .u8 (m:Nat))) (hy:ev ρ y=some (.int .u8 (n:Nat))) (hm:m<256) (hn:n<256):OpY P ρ o (.int .u8 ((m|||n:Nat):Int)):=(y_or0 ho hx hy).cast (by
  rw[BitVec.toNat_or,show IntKind.bits .u8=8 from rfl,bv_nat _ _ Om,bv_nat _ _ Om,IntWalk.u8_in _ ⟨Om,?_⟩]
  have h1:=Nat.or_lt_two_pow (n:=8) (x:=m) (y:=n) Om Om
  omega)
theorem shrN_u8 (ho:o.op=.binOp .shr ty x y ty') (hx:ev ρ x=some (.int .u8 (m:Nat))) (hy:ev ρ y=some (.int k' (n:Nat))) (h:m<256):OpY P ρ o (.int .u8 ((m/2^n:Nat):Int)):=(y_shr0 ho hx hy).cast (by rw[shr_nat _ _ _ (by simpa [IntKind.bits] using h)])
theorem quoN_u8 (ho:o.op=.binOp .quo ty x y ty') (hx:ev ρ x=some (.int .u8 (m:Nat))) (hy:ev ρ y=some (.int .u8 (n:Nat))) (h0:0<n) (hm:m≤255):OpY P ρ o (.int .u8 ((m/n:Nat):Int)):=(y_quo0 ho hx hy Om).cast (by
  rw[Int.tdiv_eq_ediv_of_nonneg Om, ←Int.natCast_ediv]
  have h1:=Nat.div_le_self m n
  generalize m/n=q at*
  rw[IntWalk.u8_in _ ⟨Om,Om⟩])
theorem cvN_u8 {s t:TypeId} {D:TypeDesc} {k:IntKind} (ho:o.op=.convert s t x) (hs:P.underlying s=some D) (ht:P.underlying t=some (.int .u8)) (hx:ev ρ x=some (.int k (m:Nat))) (h:m≤255):OpY P ρ o (.int .u8 ((m:Nat):Int)):=(y_cv0 ho hs ht hx).cast (by rw[IntWalk.u8_in _ ⟨Om,Om⟩])
theorem wrapU_u8 (a:Int):IntKind.u8.wrap a=a%256:=by simp[IntKind.wrap,IntKind.bits,IntKind.signed]
theorem addW_u8 (ho:o.op=.binOp .add ty x y ty') (hx:ev ρ x=some (.int .u8 (m:Nat))) (hy:ev ρ y=some (.int .u8 (n:Nat))):OpY P ρ o (.int .u8 (((m+n)%256:Nat):Int)):=(y_add ho hx hy).cast (by rw[wrapU_u8];simp)
theorem shlW_u8 (ho:o.op=.binOp .shl ty x y ty') (hx:ev ρ x=some (.int .u8 (m:Nat))) (hy:ev ρ y=some (.int k' (n:Nat))):OpY P ρ o (.int .u8 ((m*2^n%256:Nat):Int)):=(y_shl0 ho hx hy).cast (by
  rw[wrapU_u8,show IntKind.bits .u8=8 from rfl]
  congr 1
  rcases Nat.le_total n 8 with h1|h1
  · rw[Nat.min_eq_left h1];simp
  · rw[Nat.min_eq_right h1]
    have e:m*2^n=(m*2^(n-8))*256:=by rw[Nat.mul_assoc,show(256:Nat)=2^8 from rfl, ←Nat.pow_add];congr 2;omega
    rw[e,Nat.mul_mod_left]
    have:((m:Nat):Int)*2^8=(m:Int)*256:=Oi
    omega)
theorem cvW_u8 {s t:TypeId} {D:TypeDesc} {k:IntKind} (ho:o.op=.convert s t x) (hs:P.underlying s=some D) (ht:P.underlying t=some (.int .u8)) (hx:ev ρ x=some (.int k (m:Nat))):OpY P ρ o (.int .u8 ((m%256:Nat):Int)):=(y_cv0 ho hs ht hx).cast (by rw[wrapU_u8];simp)
theorem addN_u16 (ho:o.op=.binOp .add ty x y ty') (hx:ev ρ x=some (.int .u16 (m:Nat))) (hy:ev ρ y=some (.int .u16 (n:Nat))) (h:m+n≤65535):OpY P ρ o (.int .u16 ((m+n:Nat):Int)):=(y_add ho hx hy).cast (by
  have e:((m:Nat):Int)+((n:Nat):Int)=((m+n:Nat):Int):=Oi
  rw[e,IntWalk.u16_in _ ⟨Om,Om⟩])
theorem subN_u16 (ho:o.op=.binOp .sub ty x y ty') (hx:ev ρ x=some (.int .u16 (m:Nat))) (hy:ev ρ y=some (.int .u16 (n:Nat))) (h:n≤m∧m≤65535):OpY P ρ o (.int .u16 ((m-n:Nat):Int)):=(y_sub ho hx hy).cast (by
  have e:((m:Nat):Int)-((n:Nat):Int)=((m-n:Nat):Int):=Om
  rw[e,IntWalk.u16_in _ ⟨Om,Om⟩])
theorem andN_u16 (ho:o.op=.binOp .and ty x y ty') (hx:ev ρ x=some (.int .u16 (m:Nat))) (hy:ev ρ y=some (.int .u16 (n:Nat))) (h:m<65536∨n<65536) (hm:m<65536) (hn:n<65536):OpY P ρ o (.int .u16 ((m&&&n:Nat):Int)):=(y_and0 ho hx hy).cast (by
  rw[BitVec.toNat_and,show IntKind.bits .u16=16 from rfl,bv_nat _ _ hm,bv_nat _ _ hn,IntWalk.u16_in _ ⟨Om,?_⟩]
  have h1:=@Nat.and_le_left m n
  have h2:=@Nat.and_le_right m n
  omega)
theorem orN_u16 (ho:o.op=.binOp .or ty x y ty') (hx:ev ρ x=some (.int .u16 (m:Nat))) (hy:ev ρ y=some (.int .u16 (n:Nat))) (hm:m<65536) (hn:n<65536):OpY P ρ o (.int .u16 ((m|||n:Nat):Int)):=(y_or0 ho hx hy).cast (by
  rw[BitVec.toNat_or,show IntKind.bits .u16=16 from rfl,bv_nat _ _ Om,bv_nat _ _ Om,IntWalk.u16_in _ ⟨Om,?_⟩]
  have h1:=Nat.or_lt_two_pow (n:=16) (x:=m) (y:=n) Om Om
  omega)
theorem shrN_u16 (ho:o.op=.binOp .shr ty x y ty') (hx:ev ρ x=some (.int .u16 (m:Nat))) (hy:ev ρ y=some (.int k' (n:Nat))) (h:m<65536):OpY P ρ o (.int .u16 ((m/2^n:Nat):Int)):=(y_shr0 ho hx hy).cast (by rw[shr_nat _ _ _ (by simpa [IntKind.bits] using h)])
theorem shlN_u16 (ho:o.op=.binOp .shl ty x y ty') (hx:ev ρ x=some (.int .u16 (m:Nat))) (hy:ev ρ y=some (.int k' (n:Nat))) (hn:n≤16) (h:m*2^n≤65535):OpY P ρ o (.int .u16 ((m*2^n:Nat):Int)):=(y_shl0 ho hx hy).cast (by
  have e:((m:Nat):Int)*2^(min n (IntKind.bits .u16))=((m*2^n:Nat):Int):=by
    rw[Nat.min_eq_left (by simpa [IntKind.bits] using hn)];simp
  rw[e,IntWalk.u16_in _ ⟨Om,Om⟩])
theorem cvN_u16 {s t:TypeId} {D:TypeDesc} {k:IntKind} (ho:o.op=.convert s t x) (hs:P.underlying s=some D) (ht:P.underlying t=some (.int .u16)) (hx:ev ρ x=some (.int k (m:Nat))) (h:m≤65535):OpY P ρ o (.int .u16 ((m:Nat):Int)):=(y_cv0 ho hs ht hx).cast (by rw[IntWalk.u16_in _ ⟨Om,Om⟩])
theorem wrapU_u16 (a:Int):IntKind.u16.wrap a=a%65536:=by simp[IntKind.wrap,IntKind.bits,IntKind.signed]
theorem shlW_u16 (ho:o.op=.binOp .shl ty x y ty') (hx:ev ρ x=some (.int .u16 (m:Nat))) (hy:ev ρ y=some (.int k' (n:Nat))):OpY P ρ o (.int .u16 ((m*2^n%65536:Nat):Int)):=(y_shl0 ho hx hy).cast (by
  rw[wrapU_u16,show IntKind.bits .u16=16 from rfl]
  congr 1
  rcases Nat.le_total n 16 with h1|h1
  · rw[Nat.min_eq_left h1];simp
  · rw[Nat.min_eq_right h1]
    have e:m*2^n=(m*2^(n-16))*65536:=by rw[Nat.mul_assoc,show(65536:Nat)=2^16 from rfl, ←Nat.pow_add];congr 2;omega
    rw[e,Nat.mul_mod_left]
    have:((m:Nat):Int)*2^16=(m:Int)*65536:=Oi
    omega)
theorem cvW_u16 {s t:TypeId} {D:TypeDesc} {k:IntKind} (ho:o.op=.convert s t x) (hs:P.underlying s=some D) (ht:P.underlying t=some (.int .u16)) (hx:ev ρ x=some (.int k (m:Nat))):OpY P ρ o (.int .u16 ((m%65536:Nat):Int)):=(y_cv0 ho hs ht hx).cast (by rw[wrapU_u16];simp)
theorem addN_u32 (ho:o.op=.binOp .add ty x y ty') (hx:ev ρ x=some (.int .u32 (m:Nat))) (hy:ev ρ y=some (.int .u32 (n:Nat))) (h:m+n≤4294967295):OpY P ρ o (.int .u32 ((m+n:Nat):Int)):=(y_add ho hx hy).cast (by
  have e:((m:Nat):Int)+((n:Nat):Int)=((m+n:Nat):Int):=Oi
  rw[e,IntWalk.u32_in _ ⟨Om,Om⟩])
theorem subN_u32 (ho:o.op=.binOp .sub ty x y ty') (hx:ev ρ x=some (.int .u32 (m:Nat))) (hy:ev ρ y=some (.int .u32 (n:Nat))) (h:n≤m∧m≤4294967295):OpY P ρ o (.int .u32 ((m-n:Nat):Int)):=(y_sub ho hx hy).cast (by
  have e:((m:Nat):Int)-((n:Nat):Int)=((m-n:Nat):Int):=Om
  rw[e,IntWalk.u32_in _ ⟨Om,Om⟩])
theorem andN_u32 (ho:o.op=.binOp .and ty x y ty') (hx:ev ρ x=some (.int .u32 (m:Nat))) (hy:ev ρ y=some (.int .u32 (n:Nat))) (h:m<4294967296∨n<4294967296) (hm:m<4294967296) (hn:n<4294967296):OpY P ρ o (.int .u32 ((m&&&n:Nat):Int)):=(y_and0 ho hx hy).cast (by
  rw[BitVec.toNat_and,show IntKind.bits .u32=32 from rfl,bv_nat _ _ hm,bv_nat _ _ hn,IntWalk.u32_in _ ⟨Om,?_⟩]
  have h1:=@Nat.and_le_left m n
  have h2:=@Nat.and_le_right m n
  omega)
theorem orN_u32 (ho:o.op=.binOp .or ty x y ty') (hx:ev ρ x=some (.int .u32 (m:Nat))) (hy:ev ρ y=some (.int .u32 (n:Nat))) (hm:m<4294967296) (hn:n<4294967296):OpY P ρ o (.int .u32 ((m|||n:Nat):Int)):=(y_or0 ho hx hy).cast (by
  rw[BitVec.toNat_or,show IntKind.bits .u32=32 from rfl,bv_nat _ _ Om,bv_nat _ _ Om,IntWalk.u32_in _ ⟨Om,?_⟩]
  have h1:=Nat.or_lt_two_pow (n:=32) (x:=m) (y:=n) Om Om
  omega)
theorem shrN_u32 (ho:o.op=.binOp .shr ty x y ty') (hx:ev ρ x=some (.int .u32 (m:Nat))) (hy:ev ρ y=some (.int k' (n:Nat))) (h:m<4294967296):OpY P ρ o (.int .u32 ((m/2^n:Nat):Int)):=(y_shr0 ho hx hy).cast (by rw[shr_nat _ _ _ (by simpa [IntKind.bits] using h)])
theorem shlN_u32 (ho:o.op=.binOp .shl ty x y ty') (hx:ev ρ x=some (.int .u32 (m:Nat))) (hy:ev ρ y=some (.int k' (n:Nat))) (hn:n≤32) (h:m*2^n≤4294967295):OpY P ρ o (.int .u32 ((m*2^n:Nat):Int)):=(y_shl0 ho hx hy).cast (by
  have e:((m:Nat):Int)*2^(min n (IntKind.bits .u32))=((m*2^n:Nat):Int):=by
    rw[Nat.min_eq_left (by simpa [IntKind.bits] using hn)];simp
  rw[e,IntWalk.u32_in _ ⟨Om,Om⟩])
theorem cvN_u32 {s t:TypeId} {D:TypeDesc} {k:IntKind} (ho:o.op=.convert s t x) (hs:P.underlying s=some D) (ht:P.underlying t=some (.int .u32)) (hx:ev ρ x=some (.int k (m:Nat))) (h:m≤4294967295):OpY P ρ o (.int .u32 ((m:Nat):Int)):=(y_cv0 ho hs ht hx).cast (by rw[IntWalk.u32_in _ ⟨Om,Om⟩])
theorem wrapU_u32 (a:Int):IntKind.u32.wrap a=a%4294967296:=by simp[IntKind.wrap,IntKind.bits,IntKind.signed]
theorem shlW_u32 (ho:o.op=.binOp .shl ty x y ty') (hx:ev ρ x=some (.int .u32 (m:Nat))) (hy:ev ρ y=some (.int k' (n:Nat))):OpY P ρ o (.int .u32 ((m*2^n%4294967296:Nat):Int)):=(y_shl0 ho hx hy).cast (by
  rw[wrapU_u32,show IntKind.bits .u32=32 from rfl]
  congr 1
  rcases Nat.le_total n 32 with h1|h1
  · rw[Nat.min_eq_left h1];simp
  · rw[Nat.min_eq_right h1]
    have e:m*2^n=(m*2^(n-32))*4294967296:=by rw[Nat.mul_assoc,show(4294967296:Nat)=2^32 from rfl, ←Nat.pow_add];congr 2;omega
    rw[e,Nat.mul_mod_left]
    have:((m:Nat):Int)*2^32=(m:Int)*4294967296:=Oi
    omega)
theorem addN_u64 (ho:o.op=.binOp .add ty x y ty') (hx:ev ρ x=some (.int .u64 (m:Nat))) (hy:ev ρ y=some (.int .u64 (n:Nat))) (h:m+n≤18446744073709551615):OpY P ρ o (.int .u64 ((m+n:Nat):Int)):=(y_add ho hx hy).cast (by
  have e:((m:Nat):Int)+((n:Nat):Int)=((m+n:Nat):Int):=Oi
  rw[e,IntWalk.u64_in _ ⟨Om,Om⟩])
theorem mulN_u64 (ho:o.op=.binOp .mul ty x y ty') (hx:ev ρ x=some (.int .u64 (m:Nat))) (hy:ev ρ y=some (.int .u64 (n:Nat))) (h:m*n≤18446744073709551615):OpY P ρ o (.int .u64 ((m*n:Nat):Int)):=(y_mul ho hx hy).cast (by
  have e:((m:Nat):Int)*((n:Nat):Int)=((m*n:Nat):Int):=Oi
  rw[e,IntWalk.u64_in _ ⟨Om,Om⟩])
theorem subN_u64 (ho:o.op=.binOp .sub ty x y ty') (hx:ev ρ x=some (.int .u64 (m:Nat))) (hy:ev ρ y=some (.int .u64 (n:Nat))) (h:n≤m∧m≤18446744073709551615):OpY P ρ o (.int .u64 ((m-n:Nat):Int)):=(y_sub ho hx hy).cast (by
  have e:((m:Nat):Int)-((n:Nat):Int)=((m-n:Nat):Int):=Om
  rw[e,IntWalk.u64_in _ ⟨Om,Om⟩])
theorem andN_u64 (ho:o.op=.binOp .and ty x y ty') (hx:ev ρ x=some (.int .u64 (m:Nat))) (hy:ev ρ y=some (.int .u64 (n:Nat))) (h:m<18446744073709551616∨n<18446744073709551616) (hm:m<18446744073709551616) (hn:n<18446744073709551616):OpY P ρ o (.int .u64 ((m&&&n:Nat):Int)):=(y_and0 ho hx hy).cast (by
  rw[BitVec.toNat_and,show IntKind.bits .u64=64 from rfl,bv_nat _ _ hm,bv_nat _ _ hn,IntWalk.u64_in _ ⟨Om,?_⟩]
  have h1:=@Nat.and_le_left m n
  have h2:=@Nat.and_le_right m n
  omega)
theorem orN_u64 (ho:o.op=.binOp .or ty x y ty') (hx:ev ρ x=some (.int .u64 (m:Nat))) (hy:ev ρ y=some (.int .u64 (n:Nat))) (hm:m<18446744073709551616) (hn:n<18446744073709551616):OpY P ρ o (.int .u64 ((m|||n:Nat):Int)):=(y_or0 ho hx hy).cast (by
  rw[BitVec.toNat_or,show IntKind.bits .u64=64 from rfl,bv_nat _ _ Om,bv_nat _ _ Om,IntWalk.u64_in _ ⟨Om,?_⟩]
  have h1:=Nat.or_lt_two_pow (n:=64) (x:=m) (y:=n) Om Om
  omega)
theorem shrN_u64 (ho:o.op=.binOp .shr ty x y ty') (hx:ev ρ x=some (.int .u64 (m:Nat))) (hy:ev ρ y=some (.int k' (n:Nat))) (h:m<18446744073709551616):OpY P ρ o (.int .u64 ((m/2^n:Nat):Int)):=(y_shr0 ho hx hy).cast (by rw[shr_nat _ _ _ (by simpa [IntKind.bits] using h)])
theorem cvN_u64 {s t:TypeId} {D:TypeDesc} {k:IntKind} (ho:o.op=.convert s t x) (hs:P.underlying s=some D) (ht:P.underlying t=some (.int .u64)) (hx:ev ρ x=some (.int k (m:Nat))) (h:m≤18446744073709551615):OpY P ρ o (.int .u64 ((m:Nat):Int)):=(y_cv0 ho hs ht hx).cast (by rw[IntWalk.u64_in _ ⟨Om,Om⟩])
theorem wrapU_u64 (a:Int):IntKind.u64.wrap a=a%18446744073709551616:=by simp[IntKind.wrap,IntKind.bits,IntKind.signed]
theorem shlW_u64 (ho:o.op=.binOp .shl ty x y ty') (hx:ev ρ x=some (.int .u64 (m:Nat))) (hy:ev ρ y=some (.int k' (n:Nat))):OpY P ρ o (.int .u64 ((m*2^n%18446744073709551616:Nat):Int)):=(y_shl0 ho hx hy).cast (by
  rw[wrapU_u64,show IntKind.bits .u64=64 from rfl]
  congr 1
  rcases Nat.le_total n 64 with h1|h1
  · rw[Nat.min_eq_left h1];simp
  · rw[Nat.min_eq_right h1]
    have e:m*2^n=(m*2^(n-64))*18446744073709551616:=by rw[Nat.mul_assoc,show(18446744073709551616:Nat)=2^64 from rfl, ←Nat.pow_add];congr 2;omega
    rw[e,Nat.mul_mod_left]
    have:((m:Nat):Int)*2^64=(m:Int)*18446744073709551616:=Oi
    omega)
end
def fieldOff (P:Program) (s f:Nat):Option Nat:=
  match P.underlying s with
  |some (.struct fs)=>match fs[f]? with
    |some fl=>match P.info? fl.type with
      |some i=>if i.size=0 then none else some fl.offset
      |none=>none
    |none=>none
  |_=>none
def sizeB (P:Program) (t:Nat):Option Nat:=(P.info? t).map (·.size)
def sliceElem (P:Program) (t:Nat):Option Nat:=
  match P.underlying t with
  |some (.slice e)=>sizeB P e
  |_=>none
def arrElem (P:Program) (t:Nat):Option (Nat × Nat):=
  match P.underlying t with
  |some (.array n e)=>(sizeB P e).map fun s=>(n,s)
  |_=>none
def aggB (P:Program) (t:Nat):Option Bool:=
  match P.underlying t with
  |some (.struct _)=>some true
  |some (.array _ _)=>some true
  |some _=>some false
  |none=>none
def zeroC (P:Program) (t:Nat):Option (List Value):=(P.info? t).bind fun i=>i.zero.map fun z=>z.cells.toList
def nthS:Nat→List Seg→Option Seg
  |_,[]=>none
  |0,s::_=>some s
  |n+1,_::l=>nthS n l
def setS:Nat→Seg→List Seg→List Seg
  |_,_,[]=>[]
  |0,s,_::l=>s::l
  |n+1,s,t::l=>t::setS n s l
theorem nthS_mem:∀(i:Nat) (l:List Seg) (s:Seg),nthS i l=some s→s ∈ l
  |_,[],_,h=>by simp[nthS] at h
  |0,t::l,s,h=>by simp[nthS] at h;simp[h]
  |n+1,t::l,s,h=>List.mem_cons_of_mem _ (nthS_mem n l s h)
theorem run_info {P:Program} {t:Nat} {i:TypeInfo} (h:P.info? t=some i) (w:World):(typeInfo t).run P w=.ok i w:=by
  simp[typeInfo,h]
theorem run_size {P:Program} {t n:Nat} (h:sizeB P t=some n) (w:World):(sizeOf t).run P w=.ok n w:=by
  unfold sizeB at h
  cases hi:P.info? t with
  |none=>simp[hi] at h
  |some i=>simp[hi] at h;simp[sizeOf,run_info hi,h]
theorem run_under {P:Program} {t:Nat} {D:TypeDesc} (h:P.underlying t=some D) (w:World):(underlying t).run P w=.ok D w:=by
  simp[underlying,h]
theorem run_isAgg {P:Program} {t:Nat} {b:Bool} (h:aggB P t=some b) (w:World):(isAgg t).run P w=.ok b w:=by
  unfold aggB at h
  cases hu:P.underlying t with
  |none=>simp[hu] at h
  |some D=>cases D<;>simp[hu] at h<;>simp[isAgg,run_under hu,h]
theorem add_addr (b q n:Nat):(⟨b,q,none⟩:Addr).add n=⟨b,q+n,none⟩:=by unfold Addr.add;split<;>simp_all
section
variable {P:Program} {K:Kx} {Q:Exit→Act→World→Prop} {ρ:Fram} {l r:List Seg} {o:Oper} {v:Value} {x y z:Operand} {t s f sz n m len cap b q j:Nat} {k:IntKind}
theorem y_fa (ho:o.op=.fieldAddr s x f) (hx:ev ρ x=some (.pointer (some ⟨b,q,none⟩))) (hP:fieldOff P s f=some n):OpY P ρ o (.pointer (some ⟨b,q+n,none⟩)):=fun ac ha w=>by
  unfold fieldOff at hP
  cases hu:P.underlying s with
  |none=>simp[hu] at hP
  |some D=>
    cases D<;>simp[hu] at hP
    rename_i fs
    cases hf:fs[f]? with
    |none=>simp[hf] at hP
    |some fl=>
      simp only[hf] at hP
      cases hi:P.info? fl.type with
      |none=>simp[hi] at hP
      |some i=>
        simp only[hi] at hP
        split at hP
        · cases hP
        · rename_i hne
          have hn:=Option.some.inj hP
          subst hn
          simp[execOp,ho,ev_ok ha hx,Instr.fieldAt,run_under hu,hf,Instr.sureAddr,fieldPlace,sizeOf,run_info hi,hne,add_addr]
theorem y_ix {q':Nat} (ho:o.op=.indexAddr t x y) (hx:ev ρ x=some (.slice (some ⟨b,q,none⟩) len cap)) (hy:ev ρ y=some (.int k (m:Nat))) (hP:sliceElem P t=some sz) (h:m<len) (hq:q+m*sz=q'):OpY P ρ o (.pointer (some ⟨b,q',none⟩)):=by
  subst hq
  intro ac ha w
  unfold sliceElem at hP
  cases hu:P.underlying t with
  |none=>simp[hu] at hP
  |some D=>
    cases D<;>simp[hu] at hP
    simp[execOp,ho,ev_ok ha hx,ev_ok ha hy,Instr.indexAt,asIntOf,run_under hu,h,run_size hP,add_addr]
theorem y_ix1 {q':Nat} (ho:o.op=.indexAddr t x y) (hx:ev ρ x=some (.slice (some ⟨b,q,none⟩) len cap)) (hy:ev ρ y=some (.int k (m:Nat))) (hP:sliceElem P t=some 1) (h:m<len) (hq:q+m=q'):OpY P ρ o (.pointer (some ⟨b,q',none⟩)):=
  y_ix ho hx hy hP h (by rw[Nat.mul_one];exact hq)
theorem y_ia {q':Nat} (ho:o.op=.indexAddr t x y) (hx:ev ρ x=some (.pointer (some ⟨b,q,none⟩))) (hy:ev ρ y=some (.int k (m:Nat))) (hP:arrElem P t=some (n,sz)) (h:m<n) (hq:q+m*sz=q'):OpY P ρ o (.pointer (some ⟨b,q',none⟩)):=by
  subst hq
  intro ac ha w
  unfold arrElem at hP
  cases hu:P.underlying t with
  |none=>simp[hu] at hP
  |some D=>
    cases D<;>simp[hu] at hP
    obtain⟨h1,rfl⟩:=hP
    simp[execOp,ho,ev_ok ha hx,ev_ok ha hy,Instr.indexAt,asIntOf,run_under hu,h,run_size h1,add_addr,Instr.sureAddr]
theorem y_ia1 {q':Nat} (ho:o.op=.indexAddr t x y) (hx:ev ρ x=some (.pointer (some ⟨b,q,none⟩))) (hy:ev ρ y=some (.int k (m:Nat))) (hP:arrElem P t=some (n,1)) (h:m<n) (hq:q+m=q'):OpY P ρ o (.pointer (some ⟨b,q',none⟩)):=
  y_ia ho hx hy hP h (by rw[Nat.mul_one];exact hq)
theorem cell_of {s:Seg} {w:World} (h:s.inW w) (hc:s.cs[j]? =some v) (hq:q=s.o+j):w.cell? ⟨s.b,q,none⟩=some v:=by subst hq;exact h.1 j v hc
theorem run_load1 {w:World} (hP:aggB P t=some false) (hc:w.cell? ⟨b,q,none⟩=some v):(Instr.loadAt t (.pointer (some ⟨b,q,none⟩))).run P w=.ok v w:=by
  simp[Instr.loadAt,Instr.sureAddr,loadVar,run_isAgg hP,hc]
theorem r_ld {sg:Seg} (i j:Nat) (hs:nthS i l=some sg) (ho:o.op=.load t x) (hx:ev ρ x=some (.pointer (some ⟨sg.b,q,none⟩))) (hP:aggB P t=some false) (hq:q=sg.o+j) (hc:sg.cs[j]? =some v):OpR P ρ l r o v:=fun ac w ha hst=>by
  simp[execOp,ho,ev_ok ha hx,run_load1 hP (cell_of (hst.hl sg (nthS_mem _ _ _ hs)) hc hq)]
theorem r_ldr {sg:Seg} (i j:Nat) (hs:nthS i r=some sg) (ho:o.op=.load t x) (hx:ev ρ x=some (.pointer (some ⟨sg.b,q,none⟩))) (hP:aggB P t=some false) (hq:q=sg.o+j) (hc:sg.cs[j]? =some v):OpR P ρ l r o v:=fun ac w ha hst=>by
  simp[execOp,ho,ev_ok ha hx,run_load1 hP (cell_of (hst.hr sg (nthS_mem _ _ _ hs)) hc hq)]
theorem has_set {s s':Seg} (h1:s'.b=s.b) (h2:s'.o=s.o) (h3:s'.cs.length=s.cs.length) (b j:Nat):s'.has b j↔s.has b j:=by unfold Seg.has;rw[h1,h2,h3]
theorem setS_mem:∀(i:Nat) (s':Seg) (l:List Seg) (u:Seg),u ∈ setS i s' l→u=s'∨u ∈ l
  |_,_,[],u,h=>by simp[setS] at h
  |0,s',t::l,u,h=>by simp[setS] at h;rcases h with h|h<;>simp[h]
  |n+1,s',t::l,u,h=>by
    simp only[setS,List.mem_cons] at h
    rcases h with h|h
    · simp[h]
    · rcases setS_mem n s' l u h with h'|h'<;>simp[h']
theorem setS_mem':∀(i:Nat) (s s':Seg) (l:List Seg) (u:Seg),nthS i l=some s→l.Pairwise Seg.apart→u ∈ setS i s' l→u=s'∨(u ∈ l∧u.apart s)
  |_,_,_,[],u,_,_,h=>by simp[setS] at h
  |0,s,s',t::l,u,hn,hp,h=>by
    simp[nthS] at hn;subst hn
    simp only[setS,List.mem_cons] at h
    rcases h with h|h
    · exact .inl h
    · exact .inr ⟨List.mem_cons_of_mem _ h,(List.rel_of_pairwise_cons hp h).symm⟩
  |n+1,s,s',t::l,u,hn,hp,h=>by
    simp only[nthS] at hn
    simp only[setS,List.mem_cons] at h
    rcases h with h|h
    · subst h;exact .inr ⟨List.mem_cons_self,List.rel_of_pairwise_cons hp (nthS_mem n l s hn)⟩
    · rcases setS_mem' n s s' l u hn (List.Pairwise.of_cons hp) h with h'|h'
      · exact .inl h'
      · exact .inr ⟨List.mem_cons_of_mem _ h'.1,h'.2⟩
theorem setS_pw:∀(i:Nat) (s s':Seg) (l:List Seg),nthS i l=some s→(∀b j,s'.has b j↔s.has b j)→l.Pairwise Seg.apart→(setS i s' l).Pairwise Seg.apart
  |_,_,_,[],_,_,_=>by simp[setS]
  |0,s,s',t::l,hn,hh,hp=>by
    simp[nthS] at hn;subst hn
    simp only[setS]
    refine List.Pairwise.cons (fun u hu b j h1 h2=>?_) (List.Pairwise.of_cons hp)
    exact List.rel_of_pairwise_cons hp hu b j ((hh b j).1 h1) h2
  |n+1,s,s',t::l,hn,hh,hp=>by
    simp only[nthS] at hn
    simp only[setS]
    refine List.Pairwise.cons (fun u hu b j h1 h2=>?_) (setS_pw n s s' l hn hh (List.Pairwise.of_cons hp))
    rcases setS_mem n s' l u hu with h|h
    · subst h;exact List.rel_of_pairwise_cons hp (nthS_mem n l s hn) b j h1 ((hh b j).1 h2)
    · exact List.rel_of_pairwise_cons hp h b j h1 h2
theorem At.store {a:Act} {w:World} {sg:Seg} {i:Nat} (h:At K ρ l r a w) (hs:nthS i l=some sg) (hj:j<sg.cs.length) (v:Value):
    At K ρ (setS i ⟨sg.b,sg.o,sg.cs.set j v,sg.sh⟩ l) r a (w.setCell ⟨sg.b,sg.o+j,none⟩ v):=by
  have hm:=nthS_mem _ _ _ hs
  have hhas:sg.has sg.b (sg.o+j):=⟨rfl,Om,Om⟩
  have hh:∀b j',(⟨sg.b,sg.o,sg.cs.set j v,sg.sh⟩:Seg).has b j'↔sg.has b j':=has_set rfl rfl Oi
  have hk:Keeps [sg] w (w.setCell ⟨sg.b,sg.o+j,none⟩ v):=Keeps.setCell w v ⟨sg,Oi,hhas⟩
  have hin:=h.st.hl sg hm
  have hold:∀u:Seg,u.inW w→u.apart sg→u.inW (w.setCell ⟨sg.b,sg.o+j,none⟩ v):=fun u hu hap=>by
    refine⟨fun j' v' hj'=>?_,fun j' hl'=>?_,fun x hx=>?_⟩
    · rw[World.cell?_setCell_other]
      · exact hu.1 j' v' hj'
      · intro e
        injection e with e1 e2
        have hlt:j'<u.cs.length:=by
          rcases Nat.lt_or_ge j' u.cs.length with h'|h'
          · exact h'
          · simp[List.getElem?_eq_none h'] at hj'
        exact hap sg.b (sg.o+j) ⟨e1.symm,Om,Om⟩ hhas
    · rw[World.frozen?_setCell];exact hu.2.1 j' hl'
    · exact hk.shape (hu.2.2 x hx)
  have hnew:(⟨sg.b,sg.o,sg.cs.set j v,sg.sh⟩:Seg).inW (w.setCell ⟨sg.b,sg.o+j,none⟩ v):=by
    refine⟨fun j' v' hj'=>?_,fun j' hl'=>?_,fun x hx=>hk.shape (hin.2.2 x hx)⟩
    · simp only[List.getElem?_set] at hj'
      by_cases e:j=j'
      · subst e
        simp[hj] at hj'
        subst hj'
        exact World.cell?_setCell_same w _ v (hin.1 j (sg.cs[j]) (by simp[hj]))
      · rw[if_neg e] at hj'
        show World.cell? _ ⟨sg.b,sg.o+j',none⟩=_
        rw[World.cell?_setCell_other]
        · exact hin.1 j' v' hj'
        · intro e';injection e' with e1 e2;omega
    · show World.frozen? _ ⟨sg.b,sg.o+j',none⟩=_
      rw[World.frozen?_setCell];exact hin.2.1 j' (by simpa using hl')
  refine⟨h.size,h.defers,h.fr,h.keeps.trans' hk ?_,⟨?_,?_,setS_pw i sg _ l hs hh h.st.pw,?_⟩,?_⟩
  · intro s hs' b j' hb
    rw[List.mem_singleton] at hs';subst hs'
    exact h.own s hm b j' hb
  · intro u hu
    rcases setS_mem' i sg _ l u hs h.st.pw hu with h'|h'
    · subst h';exact hnew
    · exact hold u (h.st.hl u h'.1) h'.2
  · intro u hu
    exact hold u (h.st.hr u hu) (h.st.lr sg hm u hu).symm
  · intro u hu t ht
    rcases setS_mem i _ l u hu with h'|h'
    · subst h';intro b j' h1 h2;exact h.st.lr sg hm t ht b j' ((hh b j').1 h1) h2
    · exact h.st.lr u h' t ht
  · intro u hu b j' hb
    rcases setS_mem i _ l u hu with h'|h'
    · subst h';exact h.own sg hm b j' ((hh b j').1 hb)
    · exact h.own u h' b j' hb
theorem setCell_run {a:Addr} {w:World} {u:Value} (hv:v.oneCell'=true) (hc:w.cell? a=some u) (hf:w.frozen? a=false):(store a v).run P w=.ok () (w.setCell a v):=by
  rw[run_store _ _ _ _ _ hv,hc];simp[hf]
theorem cells_one (hv:v.oneCell'=true):v.cells= #[v]:=by cases v<;>first|rfl|(simp[Value.oneCell'] at hv)
theorem e_st {sg:Seg} (i j:Nat) {cs':List Value} (hs:nthS i l=some sg) (ho:o.op=.store t x y) (hx:ev ρ x=some (.pointer (some ⟨sg.b,q,none⟩))) (hy:ev ρ y=some v) (hP:sizeB P t=some 1) (hv:v.oneCell'=true)
    (hq:q=sg.o+j) (hj:j<sg.cs.length) (hd:o.dst=none) (hc:sg.cs.set j v=cs'):Eff P K ρ l r o (fun ρ' l'=>ρ'=ρ∧l'=setS i ⟨sg.b,sg.o,cs',sg.sh⟩ l):=by
  intro a w ha nx Q hnx
  have hm:=nthS_mem _ _ _ hs
  have hin:=ha.st.hl sg hm
  subst hq
  have hc1:w.cell? ⟨sg.b,sg.o+j,none⟩=some sg.cs[j]:=hin.1 j _ (by simp[hj])
  unfold Oper.wp
  have e:(execOp a.eval o).run P w=.ok .skip (w.setCell ⟨sg.b,sg.o+j,none⟩ v):=by
    simp[execOp,ho,ev_ok ha.fr hx,ev_ok ha.fr hy,Instr.storeAt,Instr.sureAddr,storeVar,run_size hP,cells_one hv,storeCells,Addr.add,setCell_run (P:=P) hv hc1 (hin.2.1 _ hj)]
  rw[e]
  simp only[Oper.upon,hd,Act.put]
  exact hnx _ _ ⟨ρ,_,⟨rfl,rfl⟩,by rw[←hc];exact ha.store hs hj v⟩
end
def takeOut:Nat→List Seg→Option (Seg × List Seg)
  |_,[]=>none
  |0,s::l=>some (s,l)
  |n+1,t::l=>match takeOut n l with
    |some (s,l')=>some (s,t::l')
    |none=>none
def pickS:List Nat→List Seg→Option (List Seg × List Seg)
  |[],l=>some ([],l)
  |i::is,l=>match takeOut i l with
    |some (s,l1)=>match pickS is l1 with
      |some (p,rest)=>some (s::p,rest)
      |none=>none
    |none=>none
def pickR:List Nat→List Seg→Option (List Seg)
  |[],_=>some []
  |i::is,l=>match nthS i l with
    |some s=>match pickR is l with
      |some p=>some (s::p)
      |none=>none
    |none=>none
theorem takeOut_perm:∀(i:Nat) (l:List Seg) (s:Seg) (l':List Seg),takeOut i l=some (s,l')→l.Perm (s::l')
  |_,[],_,_,h=>by simp[takeOut] at h
  |0,t::l,s,l',h=>by simp[takeOut] at h;obtain⟨rfl,rfl⟩:=h;exact .refl _
  |n+1,t::l,s,l',h=>by
    simp only[takeOut] at h
    cases ht:takeOut n l with
    |none=>simp[ht] at h
    |some p=>
      obtain⟨s1,l1⟩:=p
      simp[ht] at h
      obtain⟨rfl,rfl⟩:=h
      exact((takeOut_perm n l s1 l1 ht).cons t).trans (.swap _ _ _)
theorem pickS_perm:∀(is:List Nat) (l p rest:List Seg),pickS is l=some (p,rest)→l.Perm (p++rest)
  |[],l,p,rest,h=>by simp[pickS] at h;obtain⟨rfl,rfl⟩:=h;exact .refl _
  |i::is,l,p,rest,h=>by
    simp only[pickS] at h
    cases ht:takeOut i l with
    |none=>simp[ht] at h
    |some q=>
      obtain⟨s,l1⟩:=q
      simp only[ht] at h
      cases hp:pickS is l1 with
      |none=>simp[hp] at h
      |some q2=>
        obtain⟨p1,rest1⟩:=q2
        simp[hp] at h
        obtain⟨rfl,rfl⟩:=h
        exact(takeOut_perm i l s l1 ht).trans ((pickS_perm is l1 p1 rest1 hp).cons s)
theorem pickR_mem:∀(is:List Nat) (l p:List Seg),pickR is l=some p→∀s ∈ p,s ∈ l
  |[],l,p,h,s,hs=>by simp[pickR] at h;subst h;cases hs
  |i::is,l,p,h,s,hs=>by
    simp only[pickR] at h
    cases ht:nthS i l with
    |none=>simp[ht] at h
    |some q=>
      simp only[ht] at h
      cases hp:pickR is l with
      |none=>simp[hp] at h
      |some p1=>
        simp[hp] at h
        subst h
        rcases List.mem_cons.1 hs with h'|h'
        · subst h';exact nthS_mem _ _ _ ht
        · exact pickR_mem is l p1 hp s h'
theorem St.perm {l l2 r:List Seg} {w:World} (h:St l r w) (hp:l.Perm l2):St l2 r w:=
  ⟨fun s hs=>h.hl s (hp.mem_iff.2 hs),h.hr,(hp.pairwise_iff (fun h=>h.symm)).1 h.pw,fun s hs=>h.lr s (hp.mem_iff.2 hs)⟩
theorem St.left {l l2 r:List Seg} {w:World} (h:St (l++l2) r w):St l r w:=
  ⟨fun s hs=>h.hl s (List.mem_append_left _ hs),h.hr,(List.pairwise_append.1 h.pw).1,fun s hs=>h.lr s (List.mem_append_left _ hs)⟩
theorem At.perm {K:Kx} {ρ:Fram} {l l2 r:List Seg} {a:Act} {w:World} (h:At K ρ l r a w) (hp:l.Perm l2):At K ρ l2 r a w:=
  ⟨h.size,h.defers,h.fr,h.keeps,h.st.perm hp,fun s hs=>h.own s (hp.mem_iff.2 hs)⟩
theorem At.left {K:Kx} {ρ:Fram} {l l2 r:List Seg} {a:Act} {w:World} (h:At K ρ (l++l2) r a w):At K ρ l r a w:=
  ⟨h.size,h.defers,h.fr,h.keeps,h.st.left,fun s hs=>h.own s (List.mem_append_left _ hs)⟩
theorem At.pick {K:Kx} {ρ:Fram} {l p rest r:List Seg} {a:Act} {w:World} (is:List Nat) (h:At K ρ l r a w) (hp:pickS is l=some (p,rest)):At K ρ p r a w:=
  (h.perm (pickS_perm _ _ _ _ hp)).left
def callable (P:Program) (f:FuncId):Prop:=∃fn,P.funcs[f]? =some fn∧(fn.name== "runtime.NumGoroutine")=false∧fn.body.isNone=false
structure Ends (Post:Value→List Seg→Prop) (l r:List Seg) (w:World) (e:Ending) (w':World):Prop where
  mk'::
  out:∃v l',e=.returned v∧Post v l'∧Keeps l w w'∧St l' r w'∧∀s ∈ l',∀b j:Nat,s.has b j→(∃t ∈ l,t.has b j)∨w.heap.size≤b
structure Con (P:Program) (f:FuncId) (args:List Value) (l r:List Seg) (Post:Value→List Seg→Prop):Prop where
  can:callable P f
  run:∀w,St l r w→Calls P f args.toArray w (Ends Post l r w)
def frArgs:Nat→List Value→Fram
  |_,[]=>[]
  |i,v::vs=>(i,v)::frArgs (i+1) vs
theorem frArgs_ok:∀(vs:List Value) (i t:Nat) (v:Value),look t (frArgs i vs)=some v→i≤t∧vs[t-i]? =some v
  |[],i,t,v,h=>by simp[frArgs,look] at h
  |u::vs,i,t,v,h=>by
    simp only[frArgs,look,cond_eq_ite] at h
    by_cases e:Nat.beq i t=true
    · have e':=Nat.eq_of_beq_eq_true e
      subst e'
      rw[if_pos e] at h
      simp at h;simp[h]
    · rw[if_neg e] at h
      obtain⟨h1,h2⟩:=frArgs_ok vs (i+1) t v h
      refine⟨Om,?_⟩
      have:t-i=(t-(i+1))+1:=Om
      rw[this];simpa using h2
theorem Con.intro {P:Program} {f:FuncId} {fn:Func} {c:Code} {args:List Value} {l r:List Seg} {Post:Value→List Seg→Prop} (hf:P.funcs[f]? =some fn) (hb:fn.body=some c) (hname:(fn.name== "runtime.NumGoroutine")=false) (hn:args.length≤fn.ntmps)
    (h:∀w0,G P ⟨fn.ntmps,l,w0⟩ (bodyPost P fn (Ends Post l r w0)) c (frArgs 0 args) l r):Con P f args l r Post:=by
  refine⟨⟨fn,hf,hname,by simp[hb]⟩,fun w hst=>calls_of_wp hf hb (h w _ w ⟨?_,rfl,?_,.refl _ _,hst,fun s hs b j hh=>.inl ⟨s,hs,hh⟩⟩)⟩
  · simp;omega
  · intro t v ht
    obtain⟨_,h2⟩:=frArgs_ok args 0 t v ht
    have hlt:t<args.length:=by
      rcases Nat.lt_or_ge t args.length with h'|h'
      · exact h'
      · simp[List.getElem?_eq_none h'] at h2
    simp at h2 ⊢
    simp[Array.getElem?_append,hlt]
    simpa [hlt] using h2
theorem Con.mono {P:Program} {f:FuncId} {args:List Value} {l r:List Seg} {Post Post':Value→List Seg→Prop} (h:Con P f args l r Post) (hp:∀v l',Post v l'→Post' v l'):Con P f args l r Post':=
  ⟨h.can,fun w hst=>(h.run w hst).mono fun e w' ⟨v,l',h1,h2,h3⟩=>⟨v,l',h1,hp _ _ h2,h3⟩⟩
def evs (ρ:Fram):List Operand→Option (List Value)
  |[]=>some []
  |x::xs=>match ev ρ x with
    |some v=>match evs ρ xs with
      |some vs=>some (v::vs)
      |none=>none
    |none=>none
theorem evs_ok {ρ:Fram} {a:Act} (ha:FrOK ρ a):∀(xs:List Operand) (vs:List Value),evs ρ xs=some vs→xs.map a.eval=vs
  |[],vs,h=>by simp[evs] at h;simp[h]
  |x::xs,vs,h=>by
    simp only[evs] at h
    cases hx:ev ρ x with
    |none=>simp[hx] at h
    |some v=>
      simp only[hx] at h
      cases hxs:evs ρ xs with
      |none=>simp[hxs] at h
      |some us=>
        simp[hxs] at h
        subst h
        simp[ev_ok ha hx,evs_ok ha xs us hxs]
section
variable {P:Program} {K:Kx} {Q:Exit→Act→World→Prop} {ρ:Fram} {l r:List Seg} {o:Oper} {v:Value}
theorem run_callFunc {f:FuncId} (h:callable P f) (args:Array Value) (w:World):(callFunc f args).run P w=.ok (.enter f args) w:=by
  obtain⟨fn,hf,hn,hb⟩:=h
  simp only[callFunc,Sem.run_bind,run_program,Result.andThen_ok,hf]
  rw[if_neg (by rw[hn];simp),if_neg (by rw[hb];simp)]
  rfl
theorem At.afterCall {a:Act} {w w':World} {lc rest rc lc':List Seg} (ha:At K ρ (lc++rest) r a w) (hrc:∀s ∈ rc,s ∈ rest++r) (hk:Keeps lc w w') (hst:St lc' rc w')
    (hown:∀s ∈ lc',∀b j:Nat,s.has b j→(∃t ∈ lc,t.has b j)∨w.heap.size≤b):At K ρ (lc'++rest) r a w':=by
  have hin:=ha.st
  have hpw:=List.pairwise_append.1 hin.pw
  have keepS:∀s:Seg,s.inW w→(∀t ∈ lc,t.apart s)→s.inW w':=fun s hs hap=>hs.keep hk hap
  have cross:∀s ∈ lc',∀t:Seg,t.inW w→(∀u ∈ lc,u.apart t)→s.apart t:=fun s hs t ht hap b j h1 h2=>by
    rcases hown s hs b j h1 with ⟨u,hu,hu2⟩|hge
    · exact hap u hu b j hu2 h2
    · have:=ht.lt h2;omega
  have hrest:∀t ∈ rest,∀u ∈ lc,u.apart t:=fun t ht u hu=>hpw.2.2 u hu t ht
  refine⟨ha.size,ha.defers,ha.fr,ha.keeps.trans' hk fun s hs b j hh=>ha.own s (List.mem_append_left _ hs) b j hh,⟨?_,?_,?_,?_⟩,?_⟩
  · intro s hs
    rcases List.mem_append.1 hs with h|h
    · exact hst.hl s h
    · exact keepS s (hin.hl s (List.mem_append_right _ h)) (hrest s h)
  · intro s hs
    exact keepS s (hin.hr s hs) fun t ht=>hin.lr t (List.mem_append_left _ ht) s hs
  · refine List.pairwise_append.2 ⟨hst.pw,hpw.2.1,fun s hs t ht=>cross s hs t (hin.hl t (List.mem_append_right _ ht)) (hrest t ht)⟩
  · intro s hs t ht
    rcases List.mem_append.1 hs with h|h
    · exact cross s h t (hin.hr t ht) fun u hu=>hin.lr u (List.mem_append_left _ hu) t ht
    · exact hin.lr s (List.mem_append_right _ h) t ht
  · intro s hs b j hh
    rcases List.mem_append.1 hs with h|h
    · rcases hown s h b j hh with ⟨u,hu,hu2⟩|hge
      · exact ha.own u (List.mem_append_left _ hu) b j hu2
      · exact .inr (Nat.le_trans ha.keeps.size hge)
    · exact ha.own s (List.mem_append_right _ h) b j hh
theorem St.sub_r {l r rc rest:List Seg} {w:World} (h:St (l++rest) r w) (hrc:∀s ∈ rc,s ∈ rest++r):St l rc w:=by
  have hpw:=List.pairwise_append.1 h.pw
  refine⟨fun s hs=>h.hl s (List.mem_append_left _ hs),fun s hs=>?_,hpw.1,fun s hs t ht=>?_⟩
  · rcases List.mem_append.1 (hrc s hs) with h'|h'
    · exact h.hl s (List.mem_append_right _ h')
    · exact h.hr s h'
  · rcases List.mem_append.1 (hrc t ht) with h'|h'
    · exact hpw.2.2 s hs t h'
    · exact h.lr s (List.mem_append_left _ hs) t h'
theorem e_call {c:Call} {f:FuncId} {args:List Value} {lc rest rc:List Seg} {Post:Value→List Seg→Prop} {d:Nat} (is rs:List Nat) (con:Con P f args lc rc Post) (ho:o.op=.call c) (hf:c.callee=.value (.func f)) (hargs:evs ρ c.args.toList=some args)
    (hl:pickS is l=some (lc,rest)) (hr:pickR rs (rest++r)=some rc) (hd:o.dst=some d) (hn:Nat.blt d K.n=true):
    Eff P K ρ l r o (fun ρ' l'=>∃v lc',Post v lc'∧ρ'=(d,v)::ρ∧l'=lc'++rest):=by
  intro a w ha nx Q hnx
  have hA:=ha.perm (pickS_perm _ _ _ _ hl)
  have hrc:=pickR_mem _ _ _ hr
  have hca:=con.run w (hA.st.sub_r hrc)
  have hargs':(c.args.map a.eval)=args.toArray:=by
    have:=evs_ok ha.fr _ _ hargs
    apply Array.toList_inj.1
    simpa using this
  have e:(execOp a.eval o).run P w=.ok (.enter f args.toArray) w:=by
    simp[execOp,ho,resolve,hf,hargs',Act.eval,Deferred.ofValue,invoke,run_callFunc con.can]
  unfold Oper.wp
  rw[e]
  simp only[Oper.upon]
  refine hca.mono fun e w' hE=>?_
  obtain⟨v,lc',rfl,hP,hk,hst,hown⟩:=hE.out
  simp only[hd]
  exact hnx _ _ ⟨(d,v)::ρ,lc'++rest,⟨v,lc',hP,rfl,rfl⟩,(hA.afterCall hrc hk hst hown).put hn v⟩
theorem ends_mk {Post:Value→List Seg→Prop} {l0 l' r:List Seg} {w0:World} {n:Nat} {a:Act} {w:World} {ρ:Fram} (h:At ⟨n,l0,w0⟩ ρ l' r a w) (hP:Post v l'):Ends Post l0 r w0 (.returned v) w:=
  ⟨v,l',rfl,hP,h.keeps,h.st,h.own⟩
variable {fn:Func} {Post:Value→List Seg→Prop} {l0:List Seg} {w0:World} {n:Nat} {p rest:List Seg}
theorem ret0 (is:List Nat) (hres:fn.results= #[]) (hp:pickS is l=some (p,rest)) (hP:Post (.tuple #[]) p):GQ ⟨n,l0,w0⟩ (bodyPost P fn (Ends Post l0 r w0)) .normal ρ l r:=
  fun a w ha=>⟨ha.defers,_,by simp[results,hres],ends_mk (ha.pick is hp) hP⟩
theorem ret0r (is:List Nat) (hres:fn.results= #[]) (hp:pickS is l=some (p,rest)) (hP:Post (.tuple #[]) p):GQ ⟨n,l0,w0⟩ (bodyPost P fn (Ends Post l0 r w0)) .ret ρ l r:=
  fun a w ha=>⟨ha.defers,_,by simp[results,hres],ends_mk (ha.pick is hp) hP⟩
theorem getD_fr {a:Act} (ha:FrOK ρ a) {t:Nat} (h:look t ρ=some v):a.tmps.getD t undef=v:=by simp[ha t v h]
theorem ret1 {t:Nat} (is:List Nat) (hres:fn.results= #[.tmp t]) (hv:look t ρ=some v) (hp:pickS is l=some (p,rest)) (hP:Post v p):GQ ⟨n,l0,w0⟩ (bodyPost P fn (Ends Post l0 r w0)) .ret ρ l r:=
  fun a w ha=>⟨ha.defers,v,by rw[results_tmp hres,getD_fr ha.fr hv],ends_mk (ha.pick is hp) hP⟩
theorem ret2 {t1 t2:Nat} {v1 v2:Value} (is:List Nat) (hres:fn.results= #[.tmp t1,.tmp t2]) (hv1:look t1 ρ=some v1) (hv2:look t2 ρ=some v2) (hp:pickS is l=some (p,rest)) (hP:Post (.tuple #[v1,v2]) p):
    GQ ⟨n,l0,w0⟩ (bodyPost P fn (Ends Post l0 r w0)) .ret ρ l r:=
  fun a w ha=>⟨ha.defers,_,by rw[results_tmp2 hres,getD_fr ha.fr hv1,getD_fr ha.fr hv2],ends_mk (ha.pick is hp) hP⟩
theorem ret3 {t1 t2 t3:Nat} {v1 v2 v3:Value} (is:List Nat) (hres:fn.results= #[.tmp t1,.tmp t2,.tmp t3]) (hv1:look t1 ρ=some v1) (hv2:look t2 ρ=some v2) (hv3:look t3 ρ=some v3) (hp:pickS is l=some (p,rest)) (hP:Post (.tuple #[v1,v2,v3]) p):
    GQ ⟨n,l0,w0⟩ (bodyPost P fn (Ends Post l0 r w0)) .ret ρ l r:=
  fun a w ha=>⟨ha.defers,_,by simp[results,hres,ha.fr _ _ hv1,ha.fr _ _ hv2,ha.fr _ _ hv3],ends_mk (ha.pick is hp) hP⟩
theorem ret4 {t1 t2 t3 t4:Nat} {v1 v2 v3 v4:Value} (is:List Nat) (hres:fn.results= #[.tmp t1,.tmp t2,.tmp t3,.tmp t4]) (hv1:look t1 ρ=some v1) (hv2:look t2 ρ=some v2) (hv3:look t3 ρ=some v3) (hv4:look t4 ρ=some v4) (hp:pickS is l=some (p,rest)) (hP:Post (.tuple #[v1,v2,v3,v4]) p):
    GQ ⟨n,l0,w0⟩ (bodyPost P fn (Ends Post l0 r w0)) .ret ρ l r:=
  fun a w ha=>⟨ha.defers,_,by simp[results,hres,ha.fr _ _ hv1,ha.fr _ _ hv2,ha.fr _ _ hv3,ha.fr _ _ hv4],ends_mk (ha.pick is hp) hP⟩
end
def nats (k:IntKind) (xs:List Nat):List Value:=xs.map fun n=>.int k ((n:Nat):Int)
def ints (k:IntKind) (xs:List Int):List Value:=xs.map fun n=>.int k n
theorem nats_get {k:IntKind} {xs:List Nat} {j:Nat} (h:j<xs.length):(nats k xs)[j]? =some (.int k ((xs.getD j 0:Nat):Int)):=by simp[nats,h]
theorem ints_get {k:IntKind} {xs:List Int} {j:Nat} (h:j<xs.length):(ints k xs)[j]? =some (.int k (xs.getD j 0)):=by simp[ints,h]
theorem nats_set (k:IntKind) (xs:List Nat) (j v:Nat):(nats k xs).set j (.int k ((v:Nat):Int))=nats k (xs.set j v):=by simp[nats,List.map_set]
theorem ints_set (k:IntKind) (xs:List Int) (j:Nat) (v:Int):(ints k xs).set j (.int k v)=ints k (xs.set j v):=by simp[ints,List.map_set]
@[simp] theorem nats_length (k:IntKind) (xs:List Nat):(nats k xs).length=xs.length:=by simp[nats]
@[simp] theorem ints_length (k:IntKind) (xs:List Int):(ints k xs).length=xs.length:=by simp[ints]
section
variable {P:Program} {K:Kx} {Q:Exit→Act→World→Prop} {ρ:Fram} {l r:List Seg} {o:Oper} {v:Value} {x y z:Operand} {t s f sz n m lo hi len cap b q j:Nat} {k k':IntKind}
theorem run_loadCellsFrom {w:World} (a:Addr):∀(n i:Nat) (vs acc:Array Value),(∀j,j<n→w.cell? (a.add (i+j))=some (vs.getD j undef))→vs.size=n→(loadCellsFrom a i n acc).run P w=.ok (acc++vs) w
  |0,i,vs,acc,h,hs=>by
    have:vs= #[]:=by apply Array.eq_empty_of_size_eq_zero hs
    simp[loadCellsFrom,this]
  |n+1,i,vs,acc,h,hs=>by
    have h0:=h 0 Om
    simp only[Nat.add_zero] at h0
    obtain⟨L⟩:=vs
    cases L with
    |nil=>simp at hs
    |cons v vs=>
      simp at hs
      have ih:=run_loadCellsFrom (w:=w) a n (i+1) vs.toArray (acc.push v) (fun j hj=>by
        have:=h (j+1) Om
        rw[show i+1+j=i+(j+1) by omega,this]
        simp) (by simp[hs])
      simp at h0
      simp only[loadCellsFrom,Sem.run_bind,run_load,h0,Result.andThen_ok,ih]
      simp
theorem run_loadA {w:World} {vs:List Value} (hP:aggB P t=some true) (hz:sizeB P t=some vs.length) (h:∀j,j<vs.length→w.cell? ⟨b,q+j,none⟩=some (vs.getD j undef)):(Instr.loadAt t (.pointer (some ⟨b,q,none⟩))).run P w=.ok (.agg vs.toArray) w:=by
  have:=run_loadCellsFrom (P:=P) (w:=w) ⟨b,q,none⟩ vs.length 0 vs.toArray #[] (fun j hj=>by rw[add_addr,Nat.zero_add,h j hj];simp) Oi
  simp[Instr.loadAt,Instr.sureAddr,loadVar,run_isAgg hP,run_size hz,loadCells,this]
theorem y_ld0 {p:Addr} (ho:o.op=.load t x) (hx:ev ρ x=some (.pointer (some p))) (hP:aggB P t=some true) (hz:sizeB P t=some 0):OpY P ρ o (.agg #[]):=fun ac ha w=>by
  simp[execOp,ho,ev_ok ha hx,Instr.loadAt,Instr.sureAddr,loadVar,run_isAgg hP,run_size hz,loadCells,loadCellsFrom]
theorem seg_take {cs vs:List Value} {i:Nat} (hv:(cs.drop j).take n=vs) (hn:vs.length=n) (hi:i<n):cs[j+i]? =some (vs.getD i undef):=by
  have h1:vs[i]? =cs[j+i]? :=by rw[←hv,List.getElem?_take,if_pos hi,List.getElem?_drop]
  rw[←h1,List.getD_eq_getElem?_getD,List.getElem?_eq_getElem Om];rfl
theorem r_lda {sg:Seg} {vs:List Value} (i j:Nat) (hs:nthS i l=some sg) (ho:o.op=.load t x) (hx:ev ρ x=some (.pointer (some ⟨sg.b,q,none⟩))) (hP:aggB P t=some true) (hz:sizeB P t=some n) (hq:q=sg.o+j) (hv:(sg.cs.drop j).take n=vs) (hn:vs.length=n):OpR P ρ l r o (.agg vs.toArray):=fun ac w ha hst=>by
  have hin:=hst.hl sg (nthS_mem _ _ _ hs)
  have e:=run_loadA (P:=P) (w:=w) (b:=sg.b) (q:=q) (vs:=vs) hP (by rw[hz,hn]) (fun i hi=>by
    subst hq
    rw[show sg.o+j+i=sg.o+(j+i) by omega]
    exact hin.1 (j+i) _ (seg_take hv hn Om))
  simp[execOp,ho,ev_ok ha hx,e]
theorem r_ldar {sg:Seg} {vs:List Value} (i j:Nat) (hs:nthS i r=some sg) (ho:o.op=.load t x) (hx:ev ρ x=some (.pointer (some ⟨sg.b,q,none⟩))) (hP:aggB P t=some true) (hz:sizeB P t=some n) (hq:q=sg.o+j) (hv:(sg.cs.drop j).take n=vs) (hn:vs.length=n):OpR P ρ l r o (.agg vs.toArray):=fun ac w ha hst=>by
  have hin:=hst.hr sg (nthS_mem _ _ _ hs)
  have e:=run_loadA (P:=P) (w:=w) (b:=sg.b) (q:=q) (vs:=vs) hP (by rw[hz,hn]) (fun i hi=>by
    subst hq
    rw[show sg.o+j+i=sg.o+(j+i) by omega]
    exact hin.1 (j+i) _ (seg_take hv hn Om))
  simp[execOp,ho,ev_ok ha hx,e]
def spl (cs:List Value) (j:Nat):List Value→List Value
  |[]=>cs
  |v::vs=>spl (cs.set j v) (j+1) vs
theorem spl_length:∀(vs cs:List Value) (j:Nat),(spl cs j vs).length=cs.length
  |[],_,_=>rfl
  |v::vs,cs,j=>by simp[spl,spl_length vs]
theorem setS_setS:∀(i:Nat) (s t:Seg) (l:List Seg),setS i s (setS i t l)=setS i s l
  |_,_,_,[]=>by simp[setS]
  |0,_,_,_::_=>rfl
  |n+1,s,t,_::l=>by simp[setS,setS_setS n s t l]
theorem nthS_setS:∀(i:Nat) (s t:Seg) (l:List Seg),nthS i l=some t→nthS i (setS i s l)=some s
  |_,_,_,[],h=>by simp[nthS] at h
  |0,_,_,_::_,_=>rfl
  |n+1,s,t,_::l,h=>by simp only[nthS,setS] at h ⊢;exact nthS_setS n s t l h
theorem setS_same:∀(i:Nat) (s:Seg) (l:List Seg),nthS i l=some s→setS i s l=l
  |_,_,[],h=>by simp[nthS] at h
  |0,_,_::_,h=>by simp[nthS] at h;simp[setS,h]
  |n+1,s,_::l,h=>by simp only[nthS,setS] at h ⊢;rw[setS_same n s l h]
theorem run_storeCells {a:Act}:∀(vs:List Value) (i0 j:Nat) (l:List Seg) (w:World) (sg:Seg) (i:Nat) (b q:Nat),At K ρ l r a w→nthS i l=some sg→b=sg.b→q+i0=sg.o+j→j+vs.length≤sg.cs.length→(∀v ∈ vs,v.oneCell'=true)→
    ∃w',(storeCells ⟨b,q,none⟩ vs i0).run P w=.ok () w'∧At K ρ (setS i ⟨sg.b,sg.o,spl sg.cs j vs,sg.sh⟩ l) r a w'
  |[],i0,j,l,w,sg,i,b,q,ha,hs,_,_,_,_=>⟨w,rfl,by
      have:(⟨sg.b,sg.o,spl sg.cs j [],sg.sh⟩:Seg)=sg:=rfl
      rw[this,setS_same i sg l hs];exact ha⟩
  |v::vs,i0,j,l,w,sg,i,b,q,ha,hs,hb,hq,hj,hv=>by
    simp only[List.length_cons] at hj
    subst hb
    have h1:=ha.store hs (j:=j) Om v
    have hin:=ha.st.hl sg (nthS_mem _ _ _ hs)
    have hc1:w.cell? ⟨sg.b,sg.o+j,none⟩=some (sg.cs[j]' Om):=hin.1 j _ Oi
    obtain⟨w',hr,hA⟩:=run_storeCells vs (i0+1) (j+1) _ _ ⟨sg.b,sg.o,sg.cs.set j v,sg.sh⟩ i sg.b q h1 (nthS_setS i _ _ _ hs) rfl (show q+(i0+1)=sg.o+(j+1) by omega) Oz (fun u hu=>hv u (List.mem_cons_of_mem _ hu))
    refine⟨w',?_,by rw[setS_setS] at hA;exact hA⟩
    simp only[storeCells,Sem.run_bind,add_addr,hq,setCell_run (P:=P) (hv v List.mem_cons_self) hc1 (hin.2.1 j Om),Result.andThen_ok]
    exact hr
theorem e_sta {sg:Seg} {vs:List Value} (i j:Nat) {cs':List Value} (hs:nthS i l=some sg) (ho:o.op=.store t x y) (hx:ev ρ x=some (.pointer (some ⟨sg.b,q,none⟩))) (hy:ev ρ y=some (.agg vs.toArray)) (hP:sizeB P t=some n) (hn:vs.length=n) (hv:(vs.all fun u=>u.oneCell')=true)
    (hq:q=sg.o+j) (hj:j+n≤sg.cs.length) (hd:o.dst=none) (hc:spl sg.cs j vs=cs'):Eff P K ρ l r o (fun ρ' l'=>ρ'=ρ∧l'=setS i ⟨sg.b,sg.o,cs',sg.sh⟩ l):=by
  intro a w ha nx Q hnx
  obtain⟨w',hr,hA⟩:=run_storeCells (P:=P) vs 0 j l w sg i sg.b q ha hs rfl Om Om (fun u hu=>List.all_eq_true.1 hv u hu)
  unfold Oper.wp
  have e:(execOp a.eval o).run P w=.ok .skip w':=by
    simp[execOp,ho,ev_ok ha.fr hx,ev_ok ha.fr hy,Instr.storeAt,Instr.sureAddr,storeVar,run_size hP,Value.cells,hn,hr]
  rw[e]
  simp only[Oper.upon,hd,Act.put]
  exact hnx _ _ ⟨ρ,_,⟨rfl,rfl⟩,by rw[←hc];exact hA⟩
theorem y_slL {q':Nat} (ho:o.op=.slice t x (some y) none none) (hx:ev ρ x=some (.slice (some ⟨b,q,none⟩) len cap)) (hy:ev ρ y=some (.int k (lo:Nat))) (hP:sliceElem P t=some sz) (h:lo≤len∧lo<cap) (hq:q+lo*sz=q'):OpY P ρ o (.slice (some ⟨b,q',none⟩) (len-lo) (cap-lo)):=by
  subst hq
  intro ac ha w
  unfold sliceElem at hP
  cases hu:P.underlying t with
  |none=>simp[hu] at hP
  |some D=>
    cases D<;>simp[hu] at hP
    simp[execOp,ho,ev_ok ha hx,ev_ok ha hy,Instr.sliceAt,run_under hu,Instr.slice,Instr.sliceBounds,Instr.sliceBound,asIntOf,run_size hP,h.1,add_addr,show¬cap=lo by omega]
theorem y_slH (ho:o.op=.slice t x none (some y) none) (hx:ev ρ x=some (.slice (some ⟨b,q,none⟩) len cap)) (hy:ev ρ y=some (.int k (hi:Nat))) (hP:sliceElem P t=some sz) (h:hi≤cap):OpY P ρ o (.slice (some ⟨b,q,none⟩) hi cap):=fun ac ha w=>by
  unfold sliceElem at hP
  cases hu:P.underlying t with
  |none=>simp[hu] at hP
  |some D=>
    cases D<;>simp[hu] at hP
    simp[execOp,ho,ev_ok ha hx,ev_ok ha hy,Instr.sliceAt,run_under hu,Instr.slice,Instr.sliceBounds,Instr.sliceBound,asIntOf,run_size hP,h,add_addr]
theorem y_slLH {q':Nat} (ho:o.op=.slice t x (some y) (some z) none) (hx:ev ρ x=some (.slice (some ⟨b,q,none⟩) len cap)) (hy:ev ρ y=some (.int k (lo:Nat))) (hz:ev ρ z=some (.int k' (hi:Nat))) (hP:sliceElem P t=some sz) (h:lo≤hi∧hi≤cap∧lo<cap) (hq:q+lo*sz=q'):OpY P ρ o (.slice (some ⟨b,q',none⟩) (hi-lo) (cap-lo)):=by
  subst hq
  intro ac ha w
  unfold sliceElem at hP
  cases hu:P.underlying t with
  |none=>simp[hu] at hP
  |some D=>
    cases D<;>simp[hu] at hP
    simp[execOp,ho,ev_ok ha hx,ev_ok ha hy,ev_ok ha hz,Instr.sliceAt,run_under hu,Instr.slice,Instr.sliceBounds,Instr.sliceBound,asIntOf,run_size hP,h.1,h.2.1,add_addr,show¬cap=lo by omega]
theorem y_slA (ho:o.op=.slice t x none none none) (hx:ev ρ x=some (.pointer (some ⟨b,q,none⟩))) (hP:arrElem P t=some (n,sz)):OpY P ρ o (.slice (some ⟨b,q,none⟩) n n):=fun ac ha w=>by
  unfold arrElem at hP
  cases hu:P.underlying t with
  |none=>simp[hu] at hP
  |some D=>
    cases D<;>simp[hu] at hP
    obtain⟨h1,rfl⟩:=hP
    simp[execOp,ho,ev_ok ha hx,Instr.sliceAt,run_under hu,Instr.sliceBounds,Instr.sureAddr,run_size h1,add_addr]
theorem y_slAH (ho:o.op=.slice t x none (some y) none) (hx:ev ρ x=some (.pointer (some ⟨b,q,none⟩))) (hy:ev ρ y=some (.int k (hi:Nat))) (hP:arrElem P t=some (n,sz)) (h:hi≤n):OpY P ρ o (.slice (some ⟨b,q,none⟩) hi n):=fun ac ha w=>by
  unfold arrElem at hP
  cases hu:P.underlying t with
  |none=>simp[hu] at hP
  |some D=>
    cases D<;>simp[hu] at hP
    obtain⟨h1,rfl⟩:=hP
    simp[execOp,ho,ev_ok ha hx,ev_ok ha hy,Instr.sliceAt,run_under hu,Instr.sliceBounds,Instr.sliceBound,asIntOf,Instr.sureAddr,run_size h1,add_addr,h]
theorem At.alloc {a:Act} {w:World} (h:At K ρ l r a w) (cs:Array Value) (T:TypeId):At K ρ (⟨w.heap.size,0,cs.toList,some (T,cs.size)⟩::l) r a (w.alloc (.cells cs T)):=by
  have hk:Keeps [] w (w.alloc (.cells cs T)):=Keeps.alloc [] w _
  have hnew:(⟨w.heap.size,0,cs.toList,some (T,cs.size)⟩:Seg).inW (w.alloc (.cells cs T)):=by
    refine⟨fun j v hj=>?_,fun j hj=>?_,fun x hx=>?_⟩
    · show World.cell? _ ⟨w.heap.size,0+j,none⟩=_
      rw[Nat.zero_add,World.cell?_alloc_new];simpa using hj
    · show World.frozen? _ ⟨w.heap.size,0+j,none⟩=_
      rw[World.frozen?_alloc_new]
    · have hx':some (T,cs.size)=some x:=hx
      rw[←hx']
      show(match (w.heap.push (.cells cs T))[w.heap.size]? with|some (.cells c elem _)=>some (elem,c.size)|_=>none)=_
      rw[Array.getElem?_push,if_pos rfl]
  have hap:∀s:Seg,s.inW w→∀b j:Nat,s.has b j→¬(⟨w.heap.size,0,cs.toList,some (T,cs.size)⟩:Seg).has b j:=fun s hs b j h1 h2=>by
    have:=hs.lt h1
    have:=h2.1
    simp at this
    omega
  refine⟨h.size,h.defers,h.fr,h.keeps.trans' hk Oi,⟨?_,fun s hs=>(h.st.hr s hs).keep hk Oi,?_,?_⟩,?_⟩
  · intro s hs
    rcases List.mem_cons.1 hs with h'|h'
    · subst h';exact hnew
    · exact(h.st.hl s h').keep hk Oi
  · exact List.Pairwise.cons (fun s hs b j h1 h2=>hap s (h.st.hl s hs) b j h2 h1) h.st.pw
  · intro s hs t ht
    rcases List.mem_cons.1 hs with h'|h'
    · subst h';exact fun b j h1 h2=>hap t (h.st.hr t ht) b j h2 h1
    · exact h.st.lr s h' t ht
  · intro s hs b j hh
    rcases List.mem_cons.1 hs with h'|h'
    · subst h';right;have:=hh.1;simp at this;have:=h.keeps.size;omega
    · exact h.own s h' b j hh
def valCells:Value→List Value
  | .agg cs=>cs.toList
  |v=>[v]
theorem valCells_eq (v:Value):v.cells.toList=valCells v:=by cases v<;>rfl
theorem e_box {d:Nat} {cs:List Value} (ho:o.op=.box t x) (hx:ev ρ x=some v) (hc:valCells v=cs) (hd:o.dst=some d) (hn:Nat.blt d K.n=true):
    Eff P K ρ l r o (fun ρ' l'=>∃b,ρ'=(d,.pointer (some ⟨b,0,none⟩))::ρ∧l'=⟨b,0,cs,some (t,cs.length)⟩::l):=by
  intro a w ha nx Q hnx
  unfold Oper.wp
  have e:(execOp a.eval o).run P w=.ok (.value (.pointer (some ⟨w.heap.size,0,none⟩))) (w.alloc (.cells v.cells t)):=by
    simp[execOp,ho,ev_ok ha.fr hx,Instr.box,newVar,newRow]
  rw[e]
  simp only[Oper.upon,hd]
  refine hnx _ _ ⟨_,_,⟨w.heap.size,rfl,rfl⟩,?_⟩
  have h1:=(ha.alloc v.cells t).put hn (.pointer (some ⟨w.heap.size,0,none⟩))
  rw[valCells_eq,hc] at h1
  have:v.cells.size=cs.length:=by rw[←hc, ←valCells_eq];simp
  rw[this] at h1
  exact h1
theorem eq_ptr_in {e:Nat} {ty:TypeId} {p:Option Addr} (hu:P.underlying ty=some (.pointer e)) (w:World) (d:Nat):(Op.equalIn (d+1) ty (.pointer p) (.pointer none)).run P w=.ok p.isNone w:=by
  cases p<;>simp[Op.equalIn,run_under hu]
theorem eq_if0_in {ms:Array (String × TypeId)} {ty:TypeId} (hu:P.underlying ty=some (.interface ms)) (w:World) (d:Nat):(Op.equalIn (d+1) ty .nilIface .nilIface).run P w=.ok true w:=by
  simp[Op.equalIn,run_under hu]
theorem eq_ptr {e:Nat} {ty:TypeId} {p:Option Addr} (hu:P.underlying ty=some (.pointer e)) (w:World):(Op.equal ty (.pointer p) (.pointer none)).run P w=.ok p.isNone w:=eq_ptr_in hu w 9999
theorem eq_if0 {ms:Array (String × TypeId)} {ty:TypeId} (hu:P.underlying ty=some (.interface ms)) (w:World):(Op.equal ty .nilIface .nilIface).run P w=.ok true w:=eq_if0_in hu w 9999
theorem nil_run {bo:BinOp} {u c:Value} {bb:Bool} {ty ty':TypeId} (hb:bo=.eql∨bo=.neq) (ho:o.op=.binOp bo ty x (.const c) ty') (hx:ev ρ x=some u) (hc:(∃p,u=.pointer p∧c=.pointer none)∨(c=.nilIface∧(u=.nilIface∨∃T q,u=.iface T q))) (h:∀w,(Op.equal ty u c).run P w=.ok bb w):OpY P ρ o (.bool (if bo=.eql then bb else !bb)):=fun ac ha w=>by
  have hg:(eqGuard bo ty x (.const c) u c).run P w=.ok () w:=by
    unfold eqGuard
    rcases hb with rfl|rfl<;>rcases hc with ⟨p,rfl,rfl⟩|⟨rfl,rfl|⟨T,q,rfl⟩⟩<;>simp
  have hr:(binOp bo ty u c).run P w=.ok (.bool (if bo=.eql then bb else !bb)) w:=by
    rcases hb with rfl|rfl<;>rcases hc with ⟨p,rfl,rfl⟩|⟨rfl,rfl|⟨T,q,rfl⟩⟩<;>simp[binOp,h]
  have hcst:ac.eval (.const c)=c:=rfl
  simp only[execOp,ho,ev_ok ha hx,hcst,Sem.run_bind,hg,hr,Result.andThen_ok,Sem.run_pure]
theorem y_eqPtrNil {p:Addr} {e:Nat} {ty ty':TypeId} (ho:o.op=.binOp .eql ty x (.const (.pointer none)) ty') (hx:ev ρ x=some (.pointer (some p))) (hu:P.underlying ty=some (.pointer e)):OpY P ρ o (.bool false):=nil_run (.inl rfl) ho hx (.inl ⟨_,rfl,rfl⟩) (eq_ptr hu)
theorem y_eqPNilNil {e:Nat} {ty ty':TypeId} (ho:o.op=.binOp .eql ty x (.const (.pointer none)) ty') (hx:ev ρ x=some (.pointer none)) (hu:P.underlying ty=some (.pointer e)):OpY P ρ o (.bool true):=nil_run (.inl rfl) ho hx (.inl ⟨_,rfl,rfl⟩) (eq_ptr hu)
theorem y_neNilNil {ms:Array (String × TypeId)} {ty ty':TypeId} (ho:o.op=.binOp .neq ty x (.const .nilIface) ty') (hx:ev ρ x=some .nilIface) (hu:P.underlying ty=some (.interface ms)):OpY P ρ o (.bool false):=nil_run (.inr rfl) ho hx (.inr ⟨rfl,.inl rfl⟩) (eq_if0 hu)
theorem y_istr {sb:ByteArray} {c:Nat} {t:Nat} (ho:o.op=.index t x y) (hx:ev ρ x=some (.string sb)) (hy:ev ρ y=some (.int k (m:Nat))) (hu:P.underlying t=some .string) (h:sb[m]?.map UInt8.toNat=some c):OpY P ρ o (.int .u8 ((c:Nat):Int)):=fun ac ha w=>by
  cases hs:sb[m]? with
  |none=>rw[hs] at h;simp at h
  |some b=>
    rw[hs] at h
    simp at h
    simp[execOp,ho,ev_ok ha hx,ev_ok ha hy,Instr.index,asIntOf,run_under hu,hs,h]
theorem args_of {a:Call} {ac:Act} (ha:FrOK ρ ac) {vs:List Value} (h:evs ρ a.args.toList=some vs):a.args.map ac.eval=vs.toArray:=by
  apply Array.toList_inj.1
  simpa using evs_ok ha _ _ h
theorem y_len {p:Option Addr} {a:Call} (ho:o.op=.call a) (hc:a.callee=.builtin .len) (hx:evs ρ a.args.toList=some [.slice p len cap]) (ht:a.argTypes= #[t]) (hu:P.underlying t=some (.slice s)):OpY P ρ o (.int .i64 ((len:Nat):Int)):=fun ac hac w=>by
  simp[execOp,ho,resolve,hc,args_of hac hx,invoke,builtin,Builtin.len_,ht,run_under hu,goInt]
theorem y_cap {p:Option Addr} {a:Call} (ho:o.op=.call a) (hc:a.callee=.builtin .cap) (hx:evs ρ a.args.toList=some [.slice p len cap]) (ht:a.argTypes= #[t]) (hu:P.underlying t=some (.slice s)):OpY P ρ o (.int .i64 ((cap:Nat):Int)):=fun ac hac w=>by
  simp[execOp,ho,resolve,hc,args_of hac hx,invoke,builtin,Builtin.cap_,ht,run_under hu,goInt]
end
section
variable {P:Program} {K:Kx} {Q:Exit→Act→World→Prop} {ρ:Fram} {l r:List Seg} {o:Oper} {v:Value} {x y z:Operand} {t s f sz n m c lo hi len cap b q j d:Nat} {k k':IntKind}
theorem At.noShape {a:Act} {w:World} {s:Seg} (h:At K ρ (s::l) r a w):At K ρ (⟨s.b,s.o,s.cs,none⟩::l) r a w:=by
  refine⟨h.size,h.defers,h.fr,h.keeps,⟨?_,h.st.hr,?_,?_⟩,?_⟩
  · intro u hu
    rcases List.mem_cons.1 hu with h'|h'
    · subst h'
      have:=h.st.hl s List.mem_cons_self
      exact⟨this.1,this.2.1,fun x hx=>by cases hx⟩
    · exact h.st.hl u (List.mem_cons_of_mem _ h')
  · have:=List.pairwise_cons.1 h.st.pw
    exact List.Pairwise.cons (fun u hu=>this.1 u hu) this.2
  · intro u hu t ht
    rcases List.mem_cons.1 hu with h'|h'
    · subst h';exact h.st.lr s List.mem_cons_self t ht
    · exact h.st.lr u (List.mem_cons_of_mem _ h') t ht
  · intro u hu b j hh
    rcases List.mem_cons.1 hu with h'|h'
    · subst h';exact h.own s List.mem_cons_self b j hh
    · exact h.own u (List.mem_cons_of_mem _ h') b j hh
theorem setS_perm:∀(i:Nat) (s t:Seg) (l:List Seg),nthS i l=some t→(s::l).Perm (setS i s l++[t])
  |_,_,_,[],h=>by simp[nthS] at h
  |0,s,t,u::l,h=>by
    simp[nthS] at h;subst h
    simp only[setS,List.cons_append]
    exact(List.perm_append_comm (l₁:=[u]) (l₂:=l)).cons s
  |n+1,s,t,u::l,h=>by
    simp only[nthS,setS] at h ⊢
    exact(List.Perm.swap u s l).trans ((setS_perm n s t l h).cons u)
theorem At.swapIn {a:Act} {w:World} {s t:Seg} {i:Nat} (h:At K ρ (s::l) r a w) (hi:nthS i l=some t):At K ρ (setS i s l) r a w:=(h.perm (setS_perm i s t l hi)).left
theorem At.empty {a:Act} {w:World} (h:At K ρ l r a w) (b o:Nat):At K ρ (⟨b,o,[],none⟩::l) r a w:=by
  have no:∀b' j:Nat,¬(⟨b,o,[],none⟩:Seg).has b' j:=fun b' j hh=>by have:=hh.2;simp at this;omega
  refine⟨h.size,h.defers,h.fr,h.keeps,⟨?_,h.st.hr,?_,?_⟩,?_⟩
  · intro u hu
    rcases List.mem_cons.1 hu with h'|h'
    · subst h';exact⟨fun j v hj=>by simp at hj,fun j hj=>by simp at hj,fun x hx=>by cases hx⟩
    · exact h.st.hl u h'
  · exact List.Pairwise.cons (fun u hu b j h1 _=>no b j h1) h.st.pw
  · intro u hu t ht
    rcases List.mem_cons.1 hu with h'|h'
    · subst h';exact fun b j h1 _=>no b j h1
    · exact h.st.lr u h' t ht
  · intro u hu b j hh
    rcases List.mem_cons.1 hu with h'|h'
    · subst h';exact(no b j hh).elim
    · exact h.own u h' b j hh
theorem G.addE {cd:Code} (h:G P K Q cd ρ (⟨0,0,[],none⟩::l) r):G P K Q cd ρ l r:=fun a w ha=>h a w (ha.empty 0 0)
theorem GL.addE {L rest:List Oper} (h:GL P K Q L rest ρ (⟨0,0,[],none⟩::l) r):GL P K Q L rest ρ l r:=fun a w ha=>h a w (ha.empty 0 0)
theorem GQ.addE {e:Exit} (h:GQ K Q e ρ (⟨0,0,[],none⟩::l) r):GQ K Q e ρ l r:=fun a w ha=>h a w (ha.empty 0 0)
theorem e_al {cs:List Value} (ho:o.op=.alloc t) (hz:zeroC P t=some cs) (hd:o.dst=some d) (hn:Nat.blt d K.n=true):
    Eff P K ρ l r o (fun ρ' l'=>∃b,ρ'=(d,.pointer (some ⟨b,0,none⟩))::ρ∧l'=⟨b,0,cs,none⟩::l):=by
  intro a w ha nx Q hnx
  unfold zeroC at hz
  cases hi:P.info? t with
  |none=>simp[hi] at hz
  |some i=>
    cases hzz:i.zero with
    |none=>simp[hi,hzz] at hz
    |some zv=>
      simp[hi,hzz] at hz
      unfold Oper.wp
      have e:(execOp a.eval o).run P w=.ok (.value (.pointer (some ⟨w.heap.size,0,none⟩))) (w.alloc (.cells zv.cells t)):=by
        simp[execOp,ho,Instr.alloc,zeroValue,run_info hi,hzz,newVar,newRow]
      rw[e]
      simp only[Oper.upon,hd]
      refine hnx _ _ ⟨_,_,⟨w.heap.size,rfl,rfl⟩,?_⟩
      have h1:=((ha.alloc zv.cells t).noShape).put hn (.pointer (some ⟨w.heap.size,0,none⟩))
      rw[hz] at h1
      exact h1
def sliceE (P:Program) (t:Nat):Option (Nat × List Value × Nat × Nat):=
  match P.underlying t with
  |some (.slice e)=>(P.info? e).bind fun i=>i.zero.map fun z=>(e,z.cells.toList,i.size,i.bytes)
  |_=>none
theorem sliceE_parts {e by':Nat} {zs:List Value} (h:sliceE P t=some (e,zs,sz,by')):∃i z,P.underlying t=some (.slice e)∧P.info? e=some i∧i.zero=some z∧z.cells.toList=zs∧i.size=sz∧i.bytes=by':=by
  unfold sliceE at h
  cases hu:P.underlying t with
  |none=>simp[hu] at h
  |some D=>
    cases D<;>simp[hu] at h
    rename_i e'
    cases hi:P.info? e' with
    |none=>simp[hi] at h
    |some i=>
      cases hz:i.zero with
      |none=>simp[hi,hz] at h
      |some z=>
        simp[hi,hz] at h
        obtain⟨rfl,h2,h3,h4⟩:=h
        exact⟨i,z,rfl,hi,hz,h2,h3,h4⟩
theorem made_flat (zs:List Value) (hz:0<zs.length):∀c,(List.range (c*zs.length)).map (fun i=>zs.toArray[i%zs.toArray.size]!)=(List.replicate c zs).flatten
  |0=>by simp
  |c+1=>by
    rw[Nat.add_mul,Nat.one_mul,List.range_add,List.map_append,made_flat zs hz c,List.replicate_succ',List.flatten_append]
    congr 1
    simp only[List.map_map,List.flatten_cons,List.flatten_nil,List.append_nil]
    apply List.ext_getElem
    · simp
    · intro i h1 h2
      simp at h1
      simp[Nat.mod_eq_of_lt h1,h1,getElem!_pos]
theorem madeCells_flat {zv:Value} {zs:List Value} (h:zv.cells.toList=zs) (hz:zs.length=sz) (h0:0<sz) (c:Nat):(madeCells zv.cells (c*sz)).toList=(List.replicate c zs).flatten:=by
  subst hz
  have:zv.cells=zs.toArray:=by apply Array.toList_inj.1;simpa using h
  rw[this]
  simp only[madeCells,Array.toList_map,Array.toList_range]
  exact made_flat zs h0 c
theorem e_mkk {kl kc:IntKind} {e by':Nat} {zs:List Value} (ho:o.op=.makeSlice t x y) (hx:ev ρ x=some (.int kl ((m:Nat):Int))) (hy:ev ρ y=some (.int kc ((c:Nat):Int))) (hP:sliceE P t=some (e,zs,sz,by')) (hz:zs.length=sz) (h0:0<sz) (h:m≤c∧by'*c≤281474976710656∧c≤9223372036854775807) (hd:o.dst=some d) (hn:Nat.blt d K.n=true):
    Eff P K ρ l r o (fun ρ' l'=>∃b,ρ'=(d,.slice (some ⟨b,0,none⟩) m c)::ρ∧l'=⟨b,0,(List.replicate c zs).flatten,none⟩::l):=by
  intro a w ha nx Q hnx
  obtain⟨i,zv,hu,hi,hzz,hzs,hsz,hby⟩:=sliceE_parts hP
  unfold Oper.wp
  have hb:(i.bytes:Int)*((c:Nat):Int)≤281474976710656:=by
    have:((i.bytes*c:Nat):Int)≤281474976710656:=by rw[hby];omega
    rwa [Int.natCast_mul] at this
  have hr:=run_make (P:=P) w t e i zv hu hi hzz kl kc m c Om Om hb Om
  simp only[Int.toNat_natCast,hsz] at hr
  have he:(execOp a.eval o).run P w=.ok (.value (.slice (some ⟨w.heap.size,0,none⟩) m c)) (w.alloc (.cells (madeCells zv.cells (c*sz)) e)):=by
    simp[execOp,ho,ev_ok ha.fr hx,ev_ok ha.fr hy,hr]
  rw[he]
  simp only[Oper.upon,hd]
  refine hnx _ _ ⟨_,_,⟨w.heap.size,rfl,rfl⟩,?_⟩
  have h1:=((ha.alloc (madeCells zv.cells (c*sz)) e).noShape).put hn (.slice (some ⟨w.heap.size,0,none⟩) m c)
  rw[madeCells_flat hzs hz h0] at h1
  exact h1
theorem e_mk {kl kc:IntKind} {e by':Nat} {z:Value} (ho:o.op=.makeSlice t x y) (hx:ev ρ x=some (.int kl ((m:Nat):Int))) (hy:ev ρ y=some (.int kc ((c:Nat):Int))) (hP:sliceE P t=some (e,[z],1,by')) (h:m≤c∧by'*c≤281474976710656∧c≤9223372036854775807) (hd:o.dst=some d) (hn:Nat.blt d K.n=true):
    Eff P K ρ l r o (fun ρ' l'=>∃b,ρ'=(d,.slice (some ⟨b,0,none⟩) m c)::ρ∧l'=⟨b,0,List.replicate c z,none⟩::l):=by
  have:=e_mkk (K:=K) (l:=l) (r:=r) ho hx hy hP rfl Om h hd hn
  have e:(List.replicate c [z]).flatten=List.replicate c z:=by
    induction c with
    |zero=>rfl
    |succ n ih=>simp[List.replicate_succ]
  rwa [e] at this
structure GS (q:Option Addr) (b o:Nat) (cs:List Value) (sz cap:Nat):Prop where
  len:cs.length=cap*sz
  ad:q=some ⟨b,o,none⟩∨(q=none∧cap=0)
theorem GS.some' {q:Option Addr} {b o:Nat} {cs:List Value} (h:GS q b o cs sz cap) (hc:0<cap):q=some ⟨b,o,none⟩:=by
  rcases h.ad with h'|⟨_,h'⟩
  · exact h'
  · omega
def Src (l r:List Seg) (q:Option Addr) (news:List Value):Prop:=news=[]∨∃sg ∈ l++r,∃j,q=some ⟨sg.b,sg.o+j,none⟩∧(sg.cs.drop j).take news.length=news
theorem Src.ofL {sg:Seg} {q2:Option Addr} {news:List Value} (i j:Nat) (hs:nthS i l=some sg) (hq:q2=some ⟨sg.b,sg.o+j,none⟩) (hv:(sg.cs.drop j).take news.length=news):Src l r q2 news:=
  .inr ⟨sg,List.mem_append_left _ (nthS_mem _ _ _ hs),j,hq,hv⟩
theorem Src.cells {q:Option Addr} {news:List Value} {a:Act} {w:World} (h:Src l r q news) (ha:At K ρ l r a w):news=[]∨∃ad,q=some ad∧∀j u,news[j]? =some u→w.cell? (ad.add j)=some u:=by
  rcases h with h|⟨sg,hm,j,hq,hv⟩
  · exact .inl h
  · refine .inr ⟨_,hq,fun i u hu=>?_⟩
    have hin:sg.inW w:=by
      rcases List.mem_append.1 hm with h|h
      · exact ha.st.hl sg h
      · exact ha.st.hr sg h
    have hi:i<news.length:=(List.getElem?_eq_some_iff.1 hu).1
    have hc:sg.cs[j+i]? =some u:=by
      rw[←hv,List.getElem?_take,if_pos hi,List.getElem?_drop] at hu
      exact hu
    rw[add_addr,Nat.add_assoc]
    exact hin.1 _ _ hc
theorem spl_eq:∀(vs cs:List Value) (j:Nat),j+vs.length≤cs.length→spl cs j vs=cs.take j++vs++cs.drop (j+vs.length)
  |[],cs,j,h=>by simp[spl]
  |v::vs,cs,j,h=>by
    simp only[List.length_cons] at h
    simp only[spl,List.length_cons]
    rw[spl_eq vs (cs.set j v) (j+1) Oz]
    rw[List.drop_set,if_pos Om,List.take_set]
    have e1:(cs.take (j+1)).set j v=cs.take j++[v]:=by
      rw[List.take_succ_eq_append_getElem Om,List.set_append_right _ _ Oz]
      have:j-(List.take j cs).length=0:=by simp;omega
      rw[this];rfl
    rw[e1,show j+1+vs.length=j+(vs.length+1) by omega]
    simp
theorem spl_take (vs cs:List Value) (j:Nat) (h:j+vs.length≤cs.length):(spl cs j vs).take (j+vs.length)=cs.take j++vs:=by
  rw[spl_eq vs cs j h,List.take_append_of_le_length Oz,List.take_of_length_le Oz]
theorem setS_erase:∀(i:Nat) (s t:Seg) (l:List Seg),nthS i l=some t→(setS i s l).Perm (s::l.eraseIdx i)
  |_,_,_,[],h=>by simp[nthS] at h
  |0,s,t,u::l,h=>by simp[setS]
  |i+1,s,t,u::l,h=>by
    simp only[setS,List.eraseIdx_cons_succ]
    exact((setS_erase i s t l (by simpa [nthS] using h)).cons u).trans (.swap _ _ _)
theorem e_app {ca:Call} {q q2:Option Addr} {b o' c2 e by':Nat} {cs zs news:List Value} {sh:Option (TypeId × Nat)} (i:Nat) (ho:o.op=.call ca) (hc:ca.callee=.builtin .append) (hargs:evs ρ ca.args.toList=some [.slice q n cap,.slice q2 m c2]) (hat:ca.argTypes= #[t,t]) (hP:sliceE P t=some (e,zs,sz,by')) (hz:zs.length=sz)
    (hs:nthS i l=some ⟨b,o',cs,sh⟩) (hg:GS q b o' cs sz cap) (hsrc:Src l r q2 news) (hn:n≤cap∧0<sz∧(n+m)*by'≤140737488355328∧n+m≤9223372036854775807) (hlen:news.length=m*sz) (h1:(news.all fun u=>u.oneCell')=true) (hd:o.dst=some d) (hnd:Nat.blt d K.n=true):
    Eff P K ρ l r o (fun ρ' l'=>∃q' b' o' cs' cap',GS q' b' o' cs' sz cap'∧n+m≤cap'∧cs'.take ((n+m)*sz)=cs.take (n*sz)++news∧ρ'=(d,.slice q' (n+m) cap')::ρ∧l'=setS i ⟨b',o',cs',none⟩ l):=by
  intro a w ha nx Q hnx
  obtain⟨hn1,h0,hby,h63⟩:=hn
  obtain⟨i',zv,hu,hi,hzz,hzs,hsz,hbyy⟩:=sliceE_parts hP
  have hszr:∀w,(sizeOf e).run P w=.ok sz w:=run_size (by simp[sizeB,hi,hsz])
  have hargs':=args_of ha.fr hargs
  have h1':∀u ∈ news,u.oneCell'=true:=fun u hu=>List.all_eq_true.1 h1 u hu
  have hexec:∀(u:Value) (w':World),(Builtin.append_ #[t,t] o.type #[.slice q n cap,.slice q2 m c2]).run P w=.ok u w'→(execOp a.eval o).run P w=.ok (.value u) w':=fun u w' h=>by
    simp[execOp,ho,resolve,hc,hargs',invoke,builtin,hat,h]
  have hlenz:zv.cells.size=sz:=by rw[←hz, ←hzs];simp
  have hcz:cs.length=cap*sz:=hg.len
  unfold Oper.wp
  by_cases hroom:n+m≤cap
  · -- within the room
    have hle:(n+m)*sz≤cap*sz:=Nat.mul_le_mul_right _ hroom
    rw[Nat.add_mul] at hle
    have fin:∀(w':World) (q':Option Addr),At K ρ (setS i ⟨b,o',spl cs (n*sz) news,none⟩ l) r a w'→q'=q→
        nx (a.put (some d) (.slice q' (n+m) cap)) w':=fun w' q' hA hq'=>by
      subst hq'
      refine hnx _ _ ⟨_,_,⟨q',b,o',spl cs (n*sz) news,cap,⟨by rw[spl_length];exact hcz,hg.ad⟩,hroom,?_,rfl,rfl⟩,hA.put hnd _⟩
      rw[Nat.add_mul, ←hlen]
      exact spl_take _ _ _ Om
    have weak:∀w',At K ρ (setS i ⟨b,o',spl cs (n*sz) news,sh⟩ l) r a w'→At K ρ (setS i ⟨b,o',spl cs (n*sz) news,none⟩ l) r a w':=fun w' hA=>by
      exact((hA.perm (setS_erase i _ _ l hs)).noShape).perm (setS_erase i _ _ l hs).symm
    rcases hsrc.cells ha with hnil|⟨ad,had,hcells⟩
    · -- nothing is appended
      subst hnil
      have hm:m=0:=by
        rcases Nat.mul_eq_zero.1 (show m*sz=0 by simpa using hlen.symm) with h|h
        · exact h
        · omega
      subst hm
      have hfc:(Builtin.firstCells sz 0 (.slice q2 0 c2)).run P w=.ok #[] w:=by
        cases q2<;>simp[Builtin.firstCells,loadCells,loadCellsFrom]
      have hr:(Builtin.append_ #[t,t] o.type #[.slice q n cap,.slice q2 0 c2]).run P w=.ok (.slice q (n+0) cap) w:=by
        cases q<;>simp[Builtin.append_,run_under hu,hszr,Builtin.lenOf,hroom,hn1,hfc,storeCells]
      rw[hexec _ _ hr]
      simp only[Oper.upon,hd]
      refine fin w q (weak w ?_) rfl
      have:(⟨b,o',spl cs (n*sz) [],sh⟩:Seg)=⟨b,o',cs,sh⟩:=rfl
      rw[this,setS_same i _ l hs]
      exact ha
    · by_cases hm0:m=0
      · subst hm0
        simp at hlen
        subst hlen
        have hfc:(Builtin.firstCells sz 0 (.slice q2 0 c2)).run P w=.ok #[] w:=by
          cases q2<;>simp[Builtin.firstCells,loadCells,loadCellsFrom]
        have hr:(Builtin.append_ #[t,t] o.type #[.slice q n cap,.slice q2 0 c2]).run P w=.ok (.slice q (n+0) cap) w:=by
          cases q<;>simp[Builtin.append_,run_under hu,hszr,Builtin.lenOf,hroom,hn1,hfc,storeCells]
        rw[hexec _ _ hr]
        simp only[Oper.upon,hd]
        refine fin w q (weak w ?_) rfl
        have:(⟨b,o',spl cs (n*sz) [],sh⟩:Seg)=⟨b,o',cs,sh⟩:=rfl
        rw[this,setS_same i _ l hs]
        exact ha
      · have hq:q=some ⟨b,o',none⟩:=hg.some' Om
        subst hq
        subst had
        have hfc:=run_firstCells_some (P:=P) w sz m ad m c2 news hlen hcells
        obtain⟨w',hw',hA⟩:=run_storeCells (P:=P) news 0 (n*sz) l w ⟨b,o',cs,sh⟩ i b (o'+n*sz) ha hs rfl Oi Oz h1'
        have hr:(Builtin.append_ #[t,t] o.type #[.slice (some ⟨b,o',none⟩) n cap,.slice (some ad) m c2]).run P w=.ok (.slice (some ⟨b,o',none⟩) (n+m) cap) w':=by
          simp[Builtin.append_,run_under hu,hszr,Builtin.lenOf,hroom,hfc,add_addr,hw']
        rw[hexec _ _ hr]
        simp only[Oper.upon,hd]
        exact fin w' _ (weak w' hA) rfl
  · -- it grows
    have hm0:0<m:=Om
    have hnews:news≠[]:=by
      intro e
      subst e
      rcases Nat.mul_eq_zero.1 (show m*sz=0 by simpa using hlen.symm) with h|h<;>omega
    rcases hsrc.cells ha with hnil|⟨ad,had,hcells⟩
    · exact(hnews hnil).elim
    subst had
    have hfit:Builtin.nextslicecap (n+m) cap*i'.bytes≤281474976710656:=growslice_fits Om (by rw[hbyy];exact hby)
    have fin:∀(C:Nat) (olds rest:List Value),n+m≤C→olds=cs.take (n*sz)→rest.length=(C-(n+m))*sz→
        nx (a.put (some d) (.slice (some ⟨w.heap.size,0,none⟩) (n+m) C)) (w.drew.alloc (.cells (olds.toArray++news.toArray++rest.toArray) e)):=fun C olds rest hC ho' hr=>by
      have hA:=((ha.drew.alloc (olds.toArray++news.toArray++rest.toArray) e).noShape).swapIn hs
      have hol:olds.length=n*sz:=by
        have:n*sz≤cap*sz:=Nat.mul_le_mul_right _ hn1
        rw[ho',List.length_take];omega
      have hCC:C*sz=(n+m)*sz+(C-(n+m))*sz:=by rw[←Nat.add_mul];congr 1;omega
      refine hnx _ _ ⟨_,_,⟨some ⟨w.heap.size,0,none⟩,w.heap.size,0,(olds.toArray++news.toArray++rest.toArray).toList,C,⟨?_,.inl rfl⟩,hC,?_,rfl,rfl⟩,hA.put hnd _⟩
      · simp only[Array.toList_append,List.length_append,hol,hlen,hr,hCC]
        rw[Nat.add_mul]
      · have h2:(n+m)*sz=(olds++news).length:=by simp[hol,hlen,Nat.add_mul]
        simp only[Array.toList_append]
        rw[h2,List.take_left',ho']
        · simp[ho']
    have hge:=grownCap_ge w (n+m) cap e
    have hzc:∀N,(Builtin.zeroCells zv.cells N).toList.length=N*sz:=fun N=>by simp[Builtin.zeroCells,hlenz]
    rcases hg.ad with hq|⟨hq,hc0⟩
    · subst hq
      have hcell:∀j u,(cs.take (n*sz))[j]? =some u→w.cell? ((⟨b,o',none⟩:Addr).add j)=some u:=fun j u hj=>by
        rw[add_addr]
        have hin:=ha.st.hl _ (nthS_mem _ _ _ hs)
        rw[List.getElem?_take] at hj
        split at hj
        · exact hin.1 _ _ hj
        · cases hj
      have hr:=run_append_grow (P:=P) w t o.type e i' zv hu hi hzz ⟨b,o',none⟩ n cap (cs.take (n*sz)) (by
        have:n*sz≤cap*sz:=Nat.mul_le_mul_right _ hn1
        rw[List.length_take,hsz];omega) hcell ad m c2 news (by rw[hsz];exact hlen) hcells Om Om hfit
      rw[hexec _ _ hr]
      simp only[Oper.upon,hd]
      have:=fin (grownCap w (n+m) cap e) _ (Builtin.zeroCells zv.cells (grownCap w (n+m) cap e-(n+m))).toList hge rfl (hzc _)
      simpa using this
    · subst hq
      subst hc0
      obtain rfl:n=0:=Om
      have hr:=run_append_nil (P:=P) w t o.type e i' zv hu hi hzz ad m c2 news (by rw[hsz];exact hlen) hcells Om Om (by
        rw[hbyy];rw[Nat.zero_add] at hby;omega)
      rw[hexec _ _ hr]
      simp only[Oper.upon,hd]
      have:=fin (grownCap w m 0 e) [] (Builtin.zeroCells zv.cells (grownCap w m 0 e-m)).toList (by simpa using hge) Oi (by simpa using hzc _)
      simpa using this
theorem e_cpy {ca:Call} {q2:Option Addr} {sl sc dl dc e by':Nat} {zs news:List Value} {sg:Seg} (i j:Nat) (ho:o.op=.call ca) (hc:ca.callee=.builtin .copy) (hargs:evs ρ ca.args.toList=some [.slice (some ⟨sg.b,q,none⟩) dl dc,.slice q2 sl sc]) (hat:ca.argTypes= #[t,t]) (hP:sliceE P t=some (e,zs,sz,by'))
    (hs:nthS i l=some sg) (hq:q=sg.o+j) (hsrc:Src l r q2 news) (hlen:news.length=min sl dl*sz) (hj:j+news.length≤sg.cs.length) (h1:(news.all fun u=>u.oneCell')=true) (hd:o.dst=some d) (hnd:Nat.blt d K.n=true):
    Eff P K ρ l r o (fun ρ' l'=>ρ'=(d,.int .i64 ((min sl dl:Nat):Int))::ρ∧l'=setS i ⟨sg.b,sg.o,spl sg.cs j news,sg.sh⟩ l):=by
  intro a w ha nx Q hnx
  obtain⟨N,hN⟩:∃N,N=min sl dl:=⟨_,rfl⟩
  rw[←hN] at hlen hnx
  obtain⟨i',zv,hu,hi,hzz,hzs,hsz,hbyy⟩:=sliceE_parts hP
  have hszr:∀w,(sizeOf e).run P w=.ok sz w:=run_size (by simp[sizeB,hi,hsz])
  have hargs':=args_of ha.fr hargs
  have h1':∀u ∈ news,u.oneCell'=true:=fun u hu=>List.all_eq_true.1 h1 u hu
  subst hq
  have hfc:(Builtin.firstCells sz N (.slice q2 sl sc)).run P w=.ok news.toArray w:=by
    rcases hsrc.cells ha with hnil|⟨ad,had,hcells⟩
    · subst hnil
      simp at hlen
      cases q2 with
      |none=>simp[Builtin.firstCells]
      |some ad=>simp[Builtin.firstCells,loadCells, ←hlen,loadCellsFrom]
    · subst had
      exact run_firstCells_some (P:=P) w sz _ ad sl sc news hlen hcells
  obtain⟨w',hw',hA⟩:=run_storeCells (P:=P) news 0 j l w sg i sg.b (sg.o+j) ha hs rfl Oi hj h1'
  unfold Oper.wp
  have hr:(Builtin.copy_ #[t,t] o.type #[.slice (some ⟨sg.b,sg.o+j,none⟩) dl dc,.slice q2 sl sc]).run P w=.ok (.int .i64 ((N:Nat):Int)) w':=by
    have:Nat.min sl dl=N:=hN.symm
    simp[Builtin.copy_,run_under hu,hszr,Builtin.lenOf,this,hfc,hw',goInt]
  have e:(execOp a.eval o).run P w=.ok (.value (.int .i64 ((N:Nat):Int))) w':=by
    simp[execOp,ho,resolve,hc,hargs',invoke,builtin,hat,hr]
  rw[e]
  simp only[Oper.upon,hd]
  exact hnx _ _ ⟨_,_,⟨rfl,rfl⟩,hA.put hnd _⟩
theorem y_mi {T:TypeId} {D:TypeDesc} (ho:o.op=.makeInterface T x) (hx:ev ρ x=some v) (hu:P.underlying T=some D) (hD:(match D with| .interface _=>true|_=>false)=false):OpY P ρ o (.iface T v):=fun ac ha w=>by
  have:(Instr.makeInterface T v).run P w=.ok (.iface T v) w:=by
    cases D<;>simp at hD<;>simp[Instr.makeInterface,run_under hu]
  simp[execOp,ho,ev_ok ha hx,this]
theorem y_s2a {p:Option Addr} {e:TypeId} (ho:o.op=.sliceToArrayPointer t x) (hx:ev ρ x=some (.slice p len cap)) (hu:P.underlying t=some (.array n e)) (h:n≤len):OpY P ρ o (.pointer p):=fun ac ha w=>by
  have:¬len<n:=Om
  simp[execOp,ho,ev_ok ha hx,Instr.arrayAt,run_under hu,this]
theorem y_max {ca:Call} {X Y:Int} (ho:o.op=.call ca) (hc:ca.callee=.builtin .max) (hx:evs ρ ca.args.toList=some [.int k X,.int k' Y]):OpY P ρ o (.int k (max X Y)):=fun ac hac w=>by
  have:(if X<Y then Y else X)=max X Y:=by split<;>omega
  simp[execOp,ho,resolve,hc,args_of hac hx,invoke,builtin,Builtin.max_,Builtin.max2,this]
theorem y_min {ca:Call} {X Y:Int} (ho:o.op=.call ca) (hc:ca.callee=.builtin .min) (hx:evs ρ ca.args.toList=some [.int k X,.int k' Y]):OpY P ρ o (.int k (min X Y)):=fun ac hac w=>by
  have:(if Y<X then Y else X)=min X Y:=by split<;>omega
  simp[execOp,ho,resolve,hc,args_of hac hx,invoke,builtin,Builtin.min_,Builtin.min2,this]
end
inductive Pl where
  |nil|stop
  |st (i:Nat) (k:Bool) (rest:Pl)
  |ef (i:Nat) (rest alt:Pl)
def Pl.alts:Pl→List Nat
  | .ef i _ a=>i::a.alts
  |_=>[]
def memB (j:Nat):List Nat→Bool
  |[]=>false
  |i::l=>Nat.beq i j||memB j l
theorem memB_mem {j:Nat}:∀{l:List Nat},memB j l=true→j ∈ l
  |[],h=>by simp[memB] at h
  |i::l,h=>by
    simp only[memB,Bool.or_eq_true] at h
    rcases h with h|h
    · rw[Nat.eq_of_beq_eq_true h];exact List.mem_cons_self
    · exact List.mem_cons_of_mem _ (memB_mem h)
def Pl.len:Pl→Nat
  | .nil=>0
  | .stop=>0
  | .st _ _ r=>r.len+1
  | .ef _ r a=>max (r.len+1) a.len
mutual
def Pl.ok (n:Nat) (b:List Nat) (E:Nat):Pl→Nat→Bool
  | .nil,d=>Nat.beq d (Nat.pow 2 n-1)
  | .stop,_=>false
  | .st i k rest,d=>Nat.blt i n && !Nat.testBit d i && subM (nthN i b) d && (!Nat.testBit E i && (!k||allFrom (fun j=>Nat.testBit d j|| !Nat.testBit E j||Nat.testBit (nthN j b) i) 0 n)) && rest.ok n b E (Nat.lor d (Nat.pow 2 i))
  | .ef i rest alt,d=>allFrom (fun j=>Nat.testBit d j||memB j (i::alt.alts)|| !subM (nthN j b) d) 0 n && (Nat.blt i n && !Nat.testBit d i && subM (nthN i b) d && Nat.testBit E i && rest.ok n b E (Nat.lor d (Nat.pow 2 i))) && alt.oks n b E d
def Pl.oks (n:Nat) (b:List Nat) (E:Nat):Pl→Nat→Bool
  | .stop,_=>true
  | .ef i rest alt,d=>(Nat.blt i n && !Nat.testBit d i && subM (nthN i b) d && Nat.testBit E i && rest.ok n b E (Nat.lor d (Nat.pow 2 i))) && alt.oks n b E d
  |_,_=>false
end
def treeB (L:List Oper) (E:Nat) (pl:Pl):Bool:=
  Region.noSelect L.toArray && Nat.ble pl.len L.length && backB 0 L && apartAll L.toArray (befs [] L) L 0 L && pl.ok L.length (befs [] L) E 0
section
variable {P:Program} {Q:Exit→Act→World→Prop}
def wpT (P:Program) (ops:Array Oper) (Q:Exit→Act→World→Prop):Pl→Act→World→Prop
  | .nil,a,w=>Q .normal a w
  | .stop,_,_=>True
  | .st i false rest,a,w=>∃o v,ops[i]? =some o∧Yields P ops o v a∧wpT P ops Q rest (a.put o.dst v) w
  | .st i true rest,a,w=>∃o v,ops[i]? =some o∧YieldsAt P ops w o v a∧wpT P ops Q rest (a.put o.dst v) w
  | .ef i rest alt,a,w=>wpOp P ops Q i (wpT P ops Q rest) a w∧wpT P ops Q alt a w
theorem oks_mem {L:List Oper} {E:Nat} {Q:Exit→Act→World→Prop} {a:Act} {w:World}:∀(pl:Pl) (d:Nat) (j:Nat),pl.oks L.length (befs [] L) E d=true→j ∈ pl.alts→wpT P L.toArray Q pl a w→
    ∃rest,(Nat.blt j L.length && !Nat.testBit d j && subM (nthN j (befs [] L)) d && Nat.testBit E j && rest.ok L.length (befs [] L) E (Nat.lor d (Nat.pow 2 j)))=true∧rest.len+1≤pl.len∧wpOp P L.toArray Q j (wpT P L.toArray Q rest) a w
  | .nil,d,j,h,hj,_=>by simp[Pl.oks] at h
  | .stop,d,j,h,hj,_=>by simp[Pl.alts] at hj
  | .st _ _ _,d,j,h,hj,_=>by simp[Pl.oks] at h
  | .ef i rest alt,d,j,h,hj,hw=>by
    simp only[Pl.oks] at h
    rw[Bool.and_eq_true] at h
    simp only[Pl.alts,List.mem_cons] at hj
    by_cases e:j=i
    · subst e
      exact⟨rest,h.1,by simp only[Pl.len];omega,hw.1⟩
    · obtain⟨r,h1,h2,h3⟩:=oks_mem alt d j h.2 (hj.resolve_left e) hw.2
      exact⟨r,h1,by simp only[Pl.len];omega,h3⟩
theorem nb_of {L:List Oper} {d i:Nat} {listed:Array Bool} (hback:backB 0 L=true) (hap:apartAll L.toArray (befs [] L) L 0 L=true) (hl:Lst L d listed) (hlt:i<L.length) (hnd':d.testBit i=false) (hsub:subM (nthN i (befs [] L)) d=true):
    i ∈ Region.ready .any L.toArray listed∧NB .any L.toArray listed i L[i] (fun j=>j=i∨(nthN j (befs [] L)).testBit i=true):=by
  have hoi:L[i]? =some L[i]:=by simp[hlt]
  have hoa:L.toArray[i]? =some L[i]:=by simpa using hoi
  have dir:∀e ∈ L[i].after,Region.binds .any e=true→listed.getD e.on false=true:=fun e he hb=>by
    have h1:=backB_spec L 0 hback i _ hoi e he hb
    rw[Nat.zero_add] at h1
    have h2:=subM_spec hsub (bef_direct hoi he hb h1)
    have h3:=hl.at_ e.on Om
    rw[h2] at h3
    have:e.on<listed.size:=by rw[hl.size];omega
    simpa [this] using h3
  have hready:i ∈ Region.ready .any L.toArray listed:=mem_ready.2 ⟨by rw[hl.at_ i hlt];exact hnd',_,hoa,dir⟩
  have isz:L.toArray.size=L.length:=Oi
  have nb:NB .any L.toArray listed i L[i] (fun j=>j=i∨(nthN j (befs [] L)).testBit i=true):=by
    refine⟨fun j hj hb=>?_,fun j oj hj hb hne=>?_,fun j oj hj hun hb=>?_⟩
    · rw[isz] at hj
      rw[hl.at_ j hj]
      rcases hb with rfl|hb
      · exact hnd'
      · cases hd:d.testBit j with
        |false=>rfl
        |true=>rw[subM_spec (hl.closed j hj hd) hb] at hnd';cases hnd'
    · have hj':L[j]? =some oj:=by simpa using hj
      rcases hb with rfl|hb
      · exact(hne rfl).elim
      · obtain⟨e,he,hbi,hle,hor⟩:=bef_chain hj' hb
        have:j<L.length:=by
          rcases Nat.lt_or_ge j L.length with h'|h'
          · exact h'
          · simp[List.getElem?_eq_none h'] at hj'
        exact⟨e,he,hbi,hor,by rw[isz];omega⟩
    · have hj':L[j]? =some oj:=by simpa using hj
      have hjl:j<L.length:=by
        rcases Nat.lt_or_ge j L.length with h'|h'
        · exact h'
        · simp[List.getElem?_eq_none h'] at hj'
      have h1:=apartAll_spec L 0 hap i _ hoi
      rw[Nat.zero_add] at h1
      have h2:=apartB_spec L 0 h1 j oj hj'
      simp only[Nat.zero_add] at h2
      rcases h2 with h2|h2|h2|h2
      · exact(hb (.inr h2)).elim
      · rw[hl.at_ j hjl,subM_spec hsub h2] at hun;cases hun
      · exact(hb (.inl h2)).elim
      · exact h2
  exact⟨hready,nb⟩
theorem tree_steps {L:List Oper} {E:Nat} (hsel:Region.noSelect L.toArray=true) (hback:backB 0 L=true) (hap:apartAll L.toArray (befs [] L) L 0 L=true)
    (hQ:∀c a w (d:Nat) v,Q (.panic c) (a.put (some d) v) w→Q (.panic c) a w):
    ∀(fuel:Nat) (pl:Pl) (d:Nat) (listed:Array Bool) (a:Act) (w:World),pl.ok L.length (befs [] L) E d=true→Lst L d listed→pl.len≤fuel→wpT P L.toArray Q pl a w→
      wpM P .any L.toArray (fun j=>Nat.testBit E j) Q fuel listed a w:=by
  intro fuel
  have isz:L.toArray.size=L.length:=Oi
  induction fuel with
  |zero=>
    intro pl d listed a w hs hl hf h
    cases pl with
    |nil=>
      refine wpM_done ?_ h 0
      have hd:d=2^L.length-1:=Nat.eq_of_beq_eq_true hs
      apply List.eq_nil_iff_forall_not_mem.2
      intro j hj
      obtain⟨hun,o,ho,_⟩:=mem_ready.1 hj
      have hlt:j<L.length:=by simpa using (Array.getElem?_eq_some_iff.1 ho).1
      rw[hl.at_ j hlt,hd,Nat.testBit_two_pow_sub_one] at hun
      simp[hlt] at hun
    |stop=>simp[Pl.ok] at hs
    |st i k rest=>simp[Pl.len] at hf
    |ef i rest alt=>simp only[Pl.len] at hf;omega
  |succ fuel ih=>
    intro pl d listed a w hs hl hf h
    cases pl with
    |nil=>
      refine wpM_done ?_ h (fuel+1)
      have hd:d=2^L.length-1:=Nat.eq_of_beq_eq_true hs
      apply List.eq_nil_iff_forall_not_mem.2
      intro j hj
      obtain⟨hun,o,ho,_⟩:=mem_ready.1 hj
      have hlt:j<L.length:=by simpa using (Array.getElem?_eq_some_iff.1 ho).1
      rw[hl.at_ j hlt,hd,Nat.testBit_two_pow_sub_one] at hun
      simp[hlt] at hun
    |stop=>simp[Pl.ok] at hs
    |st i k rest=>
      simp only[Pl.ok,Bool.and_eq_true] at hs
      obtain⟨⟨⟨⟨hlt',hnd⟩,hsub⟩,hE',hk⟩,hrest⟩:=hs
      have hlt:i<L.length:=Nat.le_of_ble_eq_true hlt'
      have hnd':d.testBit i=false:=by simpa using hnd
      have hE:Nat.testBit E i=false:=by simpa using hE'
      have hoa:L.toArray[i]? =some L[i]:=by simp[hlt]
      obtain⟨hready,nb⟩:=nb_of hback hap hl hlt hnd' hsub
      have hl':=hl.put hlt hsub
      simp only[Pl.len] at hf
      cases k with
      |false=>
        obtain⟨o,v,ho,hy,hw⟩:=h
        have:o=L[i]:=Option.some.inj (ho.symm.trans hoa)
        subst this
        refine wpM_pure hoa (Region.noSelect_spec hsel) hE ?_ fuel listed a w nb hready hy (ih rest _ _ _ w hrest hl' Om hw)
        intro c a w hq
        cases hd:L[i].dst with
        |none=>rw[hd] at hq;exact hq
        |some d'=>rw[hd] at hq;exact hQ c a w d' v hq
      |true=>
        obtain⟨o,v,ho,hy,hw⟩:=h
        have:o=L[i]:=Option.some.inj (ho.symm.trans hoa)
        subst this
        refine wpM_read hoa (Region.noSelect_spec hsel) hE (.inl rfl) fuel listed a w nb ?_ hready hy (ih rest _ _ _ w hrest hl' Om hw)
        intro j hj hun hEj
        rw[isz] at hj
        have h1:=allFrom_spec _ _ (by simpa using hk) j Om Om
        rw[hl.at_ j hj] at hun
        simp only[hun,hEj,Bool.not_true,Bool.false_or] at h1
        exact .inr h1
    |ef i rest alt=>
      simp only[Pl.ok] at hs
      rw[Bool.and_eq_true,Bool.and_eq_true] at hs
      obtain⟨⟨hall,hi⟩,halt⟩:=hs
      have hoks:(Pl.ef i rest alt).oks L.length (befs [] L) E d=true:=by
        simp only[Pl.oks];rw[Bool.and_eq_true];exact⟨hi,halt⟩
      have step:∀j ∈ (Pl.ef i rest alt).alts,j ∈ Region.ready .any L.toArray listed∧Nat.testBit E j=true∧wpOp P L.toArray Q j (wpM P .any L.toArray (fun j=>Nat.testBit E j) Q fuel (listed.setIfInBounds j true)) a w:=by
        intro j hj
        obtain⟨rj,h1,h2,h3⟩:=oks_mem _ d j hoks hj h
        simp only[Bool.and_eq_true] at h1
        obtain⟨⟨⟨⟨hlt',hnd⟩,hsub⟩,hEj⟩,hrj⟩:=h1
        have hlt:j<L.length:=Nat.le_of_ble_eq_true hlt'
        have hnd':d.testBit j=false:=by simpa using hnd
        obtain⟨hready,nb⟩:=nb_of hback hap hl hlt hnd' hsub
        exact⟨hready,hEj,wpOp_mono (fun a' w' h'=>ih rj _ _ a' w' hrj (hl.put hlt hsub) Om h') h3⟩
      refine⟨fun h0=>?_,fun j hj=>?_⟩
      · have:=(step i (by simp[Pl.alts])).1
        rw[h0] at this;cases this
      · have hm:j ∈ (Pl.ef i rest alt).alts:=by
          obtain⟨hun,oj,hoj,hdep⟩:=mem_ready.1 hj
          have hjl:j<L.length:=by simpa using (Array.getElem?_eq_some_iff.1 hoj).1
          have h1:=allFrom_spec _ _ hall j Om Om
          rw[hl.at_ j hjl] at hun
          simp only[hun,Bool.false_or] at h1
          rw[Bool.or_eq_true] at h1
          rcases h1 with h1|h1
          · exact memB_mem h1
          · exfalso
            -- all that j waits for is done
            have hoj':L[j]? =some oj:=by simpa using hoj
            have:subM (nthN j (befs [] L)) d=true:=by
              show Nat.beq (nthN j (befs [] L)&&&d) (nthN j (befs [] L))=true
              have e:nthN j (befs [] L)&&&d=nthN j (befs [] L):=by
                apply Nat.eq_of_testBit_eq
                intro k
                rw[Nat.testBit_and]
                cases hk:(nthN j (befs [] L)).testBit k with
                |false=>rfl
                |true=>
                  obtain⟨e,he,hb,hlt,hor⟩:=bef_chain hoj' hk
                  have hd:=hdep e he hb
                  have hdone:d.testBit e.on=true:=by
                    have h3:=hl.at_ e.on Om
                    have:e.on<listed.size:=by rw[hl.size];omega
                    rw[←h3];simpa [this] using hd
                  rcases hor with h4|h4
                  · subst h4;simp[hdone]
                  · have:=hl.closed e.on Om hdone
                    rw[subM_spec this h4];rfl
              rw[e];exact Nat.beq_refl _
            rw[this] at h1;cases h1
        obtain⟨h1,h2,h3⟩:=step j hm
        rw[if_pos h2];exact h3
theorem tree_sound {L:List Oper} {id:Nat} (E:Nat) (pl:Pl) (hm:P.follows .mixedOrders=true) (hB:treeB L E pl=true)
    (hQ:∀c a w (d:Nat) v,Q (.panic c) (a.put (some d) v) w→Q (.panic c) a w) {a:Act} {w:World} (h:wpT P L.toArray Q pl a w.drew):(Code.region id L.toArray true).wp P Q a w:=by
  simp only[treeB,Bool.and_eq_true] at hB
  obtain⟨⟨⟨⟨h1,h0⟩,h2⟩,h3⟩,h4⟩:=hB
  have h0':pl.len≤L.length:=Nat.le_of_ble_eq_true h0
  refine wp_region_M (E:=fun j=>Nat.testBit E j) hm ?_
  have hl:Lst L 0 (Array.replicate L.toArray.size false):=⟨Oi,fun j hj=>by simp[hj],fun j hj hd=>by simp at hd⟩
  exact tree_steps (P:=P) h1 h2 h3 hQ L.toArray.size pl 0 _ a w.drew h4 hl (by simpa using h0') h
end
section
variable {P:Program} {K:Kx} {Q:Exit→Act→World→Prop} {ρ:Fram} {l r:List Seg} {L:List Oper} {o:Oper} {d i:Nat} {v:Value} {os alt:Pl}
def GT (P:Program) (K:Kx) (Q:Exit→Act→World→Prop) (L:List Oper) (pl:Pl) (ρ:Fram) (l r:List Seg):Prop:=∀a w,At K ρ l r a w→wpT P L.toArray Q pl a w
theorem G.tree {id:Nat} {L:List Oper} (E:Nat) (pl:Pl) (hm:P.follows .mixedOrders=true) (hB:treeB L E pl=true) (hQ:∀c a w (d:Nat) v,Q (.panic c) (a.put (some d) v) w→Q (.panic c) a w) (h:GT P K Q L pl ρ l r):G P K Q (.region id L.toArray true) ρ l r:=
  fun a w ha=>tree_sound E pl hm hB hQ (h a w.drew ha.drew)
theorem GT.y (h:OpY P ρ o v) (hi:nth i L=some o) (hw:want L ρ o=some true) (hd:o.dst=some d) (hn:Nat.blt d K.n=true) (k:GT P K Q L os ((d,v)::ρ) l r):GT P K Q L (.st i false os) ρ l r:=
  fun a w ha=>⟨o,v,nth_arr hi,.inl ⟨want_ok hw ha.fr,fun w'=>h a ha.fr w'⟩,by rw[hd];exact k _ _ (ha.put hn v)⟩
theorem GT.skip (hi:nth i L=some o) (hw:want L ρ o=some false) (hd:o.dst=some d) (hn:Nat.blt d K.n=true) (k:GT P K Q L os ((d,undef)::ρ) l r):GT P K Q L (.st i false os) ρ l r:=
  fun a w ha=>⟨o,undef,nth_arr hi,.inr ⟨want_ok hw ha.fr,rfl⟩,by rw[hd];exact k _ _ (ha.put hn undef)⟩
theorem GT.eff {N:Fram→List Seg→Prop} (h:Eff P K ρ l r o N) (hi:nth i L=some o) (hw:want L ρ o=some true) (k:∀ρ' l',N ρ' l'→GT P K Q L os ρ' l' r) (ha:GT P K Q L alt ρ l r):GT P K Q L (.ef i os alt) ρ l r:=by
  intro a w hA
  refine⟨?_,ha a w hA⟩
  show wpOp P L.toArray Q i (wpT P L.toArray Q os) a w
  unfold wpOp
  rw[nth_arr hi]
  simp only[]
  rw[if_pos (want_ok hw hA.fr)]
  left
  exact h a w hA _ _ fun a' w' ⟨ρ',l',hN,hA'⟩=>k ρ' l' hN a' w' hA'
theorem GT.erd (h:OpR P ρ l r o v) (hi:nth i L=some o) (hw:want L ρ o=some true) (hd:o.dst=some d) (hn:Nat.blt d K.n=true) (k:GT P K Q L os ((d,v)::ρ) l r) (ha:GT P K Q L alt ρ l r):GT P K Q L (.ef i os alt) ρ l r:=by
  refine GT.eff (N:=fun ρ' l'=>ρ'=(d,v)::ρ∧l'=l) ?_ hi hw (fun ρ' l' ⟨h1,h2⟩=>by subst h1;subst h2;exact k) ha
  intro a w hA nx Q hnx
  unfold Oper.wp
  rw[h a w hA.fr hA.st]
  simp only[Oper.upon,hd]
  exact hnx _ _ ⟨_,_,⟨rfl,rfl⟩,hA.put hn v⟩
theorem GT.stop:GT P K Q L .stop ρ l r:=fun _ _ _=>trivial
theorem GT.nil (h:GQ K Q .normal ρ l r):GT P K Q L .nil ρ l r:=fun a w ha=>h a w ha
end
section
variable {P:Program} {K:Kx} {Q:Exit→Act→World→Prop} {ρ:Fram} {l r:List Seg} {o:Oper} {v:Value} {x y z:Operand} {t s f sz n m c lo hi len cap b q j d:Nat} {k k':IntKind}
theorem nats_append (xs ys:List Nat):nats k (xs++ys)=nats k xs++nats k ys:=by simp[nats]
theorem nats_rep (n x:Nat):List.replicate n (.int k ((x:Nat):Int))=nats k (List.replicate n x):=by simp[nats]
theorem nats_one (xs:List Nat):((nats k xs).all fun u=>u.oneCell')=true:=by
  simp[nats,Value.oneCell']
theorem nats_src (xs:List Nat) (j m:Nat):((nats k xs).drop j).take (nats k ((xs.drop j).take m)).length=nats k ((xs.drop j).take m):=by
  simp[nats,List.map_take,List.map_drop,List.take_take]
theorem pre_get {cs:List Value} {xs:List Nat} (h:cs.take n=nats k xs) (hj:j<n∧j<xs.length):cs[j]? =some (.int k ((xs.getD j 0:Nat):Int)):=by
  rw[←nats_get hj.2, ←h,List.getElem?_take,if_pos hj.1]
theorem GS.j_lt {q:Option Addr} {b o:Nat} {cs:List Value} (h:GS q b o cs 1 cap) {j:Nat} (hj:j<cap):j<cs.length:=by have:=h.len;omega
theorem nats_take1 {xs:List Nat} (h:j<xs.length):((nats k xs).drop j).take 1=[.int k ((xs.getD j 0:Nat):Int)]:=by
  have:(nats k xs).drop j=.int k ((xs.getD j 0:Nat):Int)::(nats k xs).drop (j+1):=by
    rw[List.drop_eq_getElem_cons (by simpa using h)]
    congr 1
    have:=nats_get (k:=k) h
    simpa [h] using this
  rw[this];rfl
theorem e_appN {ca:Call} {q q2:Option Addr} {b o' c2 e by':Nat} {cs zs:List Value} {xs ys:List Nat} {sh:Option (TypeId × Nat)} (i:Nat) (ho:o.op=.call ca) (hc:ca.callee=.builtin .append) (hargs:evs ρ ca.args.toList=some [.slice q n cap,.slice q2 m c2]) (hat:ca.argTypes= #[t,t]) (hP:sliceE P t=some (e,zs,1,by')) (hz:zs.length=1)
    (hs:nthS i l=some ⟨b,o',cs,sh⟩) (hg:GS q b o' cs 1 cap) (hp:cs.take n=nats k xs) (hsrc:Src l r q2 (nats k ys)) (hn:n≤cap∧(n+m)*by'≤140737488355328∧n+m≤9223372036854775807∧ys.length=m) (hd:o.dst=some d) (hnd:Nat.blt d K.n=true):
    Eff P K ρ l r o (fun ρ' l'=>∃q' b' o' cs' cap',GS q' b' o' cs' 1 cap'∧n+m≤cap'∧cs'.take (n+m)=nats k (xs++ys)∧ρ'=(d,.slice q' (n+m) cap')::ρ∧l'=setS i ⟨b',o',cs',none⟩ l):=by
  intro a w ha nx Q hnx
  refine e_app (K:=K) i ho hc hargs hat hP hz hs hg hsrc ⟨hn.1,Om,hn.2.1,hn.2.2.1⟩ (by simp[hn.2.2.2]) (nats_one _) hd hnd a w ha nx Q fun a' w' ⟨ρ',l',⟨q',b',o'',cs',cap',h1,h2,h3,h4,h5⟩,h6⟩=>hnx a' w' ⟨ρ',l',⟨q',b',o'',cs',cap',h1,h2,?_,h4,h5⟩,h6⟩
  rw[Nat.mul_one,Nat.mul_one,hp] at h3
  rw[h3,nats_append]
theorem e_mkN {kl kc:IntKind} {e by':Nat} (ho:o.op=.makeSlice t x y) (hx:ev ρ x=some (.int kl ((m:Nat):Int))) (hy:ev ρ y=some (.int kc ((c:Nat):Int))) (hP:sliceE P t=some (e,[.int k ((0:Nat):Int)],1,by')) (h:m≤c∧by'*c≤281474976710656∧c≤9223372036854775807) (hd:o.dst=some d) (hn:Nat.blt d K.n=true):
    Eff P K ρ l r o (fun ρ' l'=>∃b,ρ'=(d,.slice (some ⟨b,0,none⟩) m c)::ρ∧l'=⟨b,0,nats k (List.replicate c 0),none⟩::l):=by
  have:=e_mk (K:=K) (l:=l) (r:=r) ho hx hy hP h hd hn
  rwa [nats_rep] at this
theorem e_bs {e:Nat} {zs vs:List Value} {pv:List (Nat × Value)} {ps:List (Nat × Operand)} (by':Nat) (ho:o.op=.buildSlice t n ps.toArray) (hps:evs ρ (ps.map (·.2))=some (pv.map (·.2))∧ps.map (·.1)=pv.map (·.1)) (hP:sliceE P t=some (e,zs,sz,by')) (hn:n*sz≤16777216)
    (hf:Instr.fill (fun i=>some (i*sz,sz)) ((Array.range (n*sz)).map (zs.toArray[· %zs.toArray.size]!)) pv=some vs.toArray) (hd:o.dst=some d) (hnd:Nat.blt d K.n=true):
    Eff P K ρ l r o (fun ρ' l'=>∃b,ρ'=(d,.slice (some ⟨b,0,none⟩) n n)::ρ∧l'=⟨b,0,vs,none⟩::l):=by
  intro a w ha nx Q hnx
  obtain⟨i,zv,hu,hi,hzz,hzs,hsz,hby⟩:=sliceE_parts hP
  have hszr:∀w,(sizeOf e).run P w=.ok sz w:=run_size (by simp[sizeB,hi,hsz])
  have hzr:∀w,(zeroValue e).run P w=.ok zv w:=fun w=>by simp[zeroValue,run_info hi,hzz]
  have hzc:zv.cells=zs.toArray:=by apply Array.toList_inj.1;simpa using hzs
  have hpv:ps.map (fun p=>(p.1,a.eval p.2))=pv:=by
    have h1:=evs_ok ha.fr _ _ hps.1
    have h2:=hps.2
    clear hf hps ho
    induction ps generalizing pv with
    |nil=>cases pv with
      |nil=>rfl
      |cons=>simp at h2
    |cons p ps ih=>cases pv with
      |nil=>simp at h2
      |cons u us=>
        simp at h1 h2
        simp only[List.map_cons,List.cons.injEq]
        exact⟨by rw[h1.1,h2.1],ih (by simpa using h1.2) h2.2⟩
  have hpv':(ps.toArray.map fun (p:Nat × Operand)=>(p.1,a.eval p.2)).toList=pv:=by simpa using hpv
  unfold Oper.wp
  have hcells:(Array.range (n*sz)).map ((if n*sz=0 then #[] else zv.cells)[· %(if n*sz=0 then #[] else zv.cells).size]!)=(Array.range (n*sz)).map (zs.toArray[· %zs.toArray.size]!):=by
    split
    · rename_i h0;rw[h0];simp
    · rw[hzc]
  have he:(execOp a.eval o).run P w=.ok (.value (.slice (some ⟨w.heap.size,0,none⟩) n n)) (w.alloc (.cells vs.toArray e)):=by
    have hbig:¬n*sz>2^24:=Om
    by_cases h0:n*sz=0
    · rw[h0] at hf hbig
      simp only[execOp,ho]
      have hr0:Array.range 0= #[]:=rfl
      simp only[hr0,Array.map_empty] at hf
      simp[Instr.buildSlice,run_under hu,hszr,h0,newRow,hr0,hpv,hf]
    · simp only[execOp,ho]
      simp[Instr.buildSlice,run_under hu,hszr,hzr,h0,hbig,newRow,hzc] at hf ⊢
      simp[hpv,hf,newRow]
  rw[he]
  simp only[Oper.upon,hd]
  refine hnx _ _ ⟨_,_,⟨w.heap.size,rfl,rfl⟩,?_⟩
  exact((ha.alloc vs.toArray e).noShape).put hnd (.slice (some ⟨w.heap.size,0,none⟩) n n)
def structB (P:Program) (t:Nat):Option (List (Nat × Nat)):=
  match P.underlying t with
  |some (.struct fs)=>fs.toList.mapM fun f=>(sizeB P f.type).map fun s=>(f.offset,s)
  |_=>none
theorem run_places (P:Program) (w:World):∀(fs:List Field) (ps:List (Nat × Nat)),fs.mapM (fun f=>(sizeB P f.type).map fun s=>(f.offset,s))=some ps→(fs.mapM fun f=>(do pure (f.offset, ←sizeOf f.type):Sem (Nat × Nat))).run P w=.ok ps w
  |[],ps,h=>by simp at h;subst h;simp
  |f::fs,ps,h=>by
    rw[List.mapM_cons] at h
    cases hs:sizeB P f.type with
    |none=>simp[hs] at h
    |some s=>
      have hsr:=run_size hs w
      cases hr:fs.mapM (fun f=>(sizeB P f.type).map fun s=>(f.offset,s)) with
      |none=>simp[hs,hr] at h
      |some rs=>
        simp[hs,hr] at h
        subst h
        have ih:=run_places P w fs rs hr
        rw[List.mapM_cons]
        simp at ih
        simp[hsr,ih]
theorem y_bd {zs vs:List Value} {pl:List (Nat × Nat)} {pv:List (Nat × Value)} {ps:List (Nat × Operand)} (ho:o.op=.build t ps.toArray) (hps:evs ρ (ps.map (·.2))=some (pv.map (·.2))∧ps.map (·.1)=pv.map (·.1)) (hS:structB P t=some pl) (hZ:zeroC P t=some zs)
    (hf:Instr.fill (pl.toArray[·]?) zs.toArray pv=some vs.toArray):OpY P ρ o (.agg vs.toArray):=by
  intro a ha w
  have hpv:ps.map (fun p=>(p.1,a.eval p.2))=pv:=by
    have h1:=evs_ok ha _ _ hps.1
    have h2:=hps.2
    clear hf hps ho
    induction ps generalizing pv with
    |nil=>cases pv with
      |nil=>rfl
      |cons=>simp at h2
    |cons p ps ih=>cases pv with
      |nil=>simp at h2
      |cons u us=>
        simp at h1 h2
        simp only[List.map_cons,List.cons.injEq]
        exact⟨by rw[h1.1,h2.1],ih (by simpa using h1.2) h2.2⟩
  unfold zeroC at hZ
  cases hi:P.info? t with
  |none=>simp[hi] at hZ
  |some i=>
    cases hzz:i.zero with
    |none=>simp[hi,hzz] at hZ
    |some zv=>
      simp[hi,hzz] at hZ
      have hzc:zv.cells=zs.toArray:=by apply Array.toList_inj.1;simpa using hZ
      unfold structB at hS
      cases hu:P.underlying t with
      |none=>simp[hu] at hS
      |some D=>
        cases D<;>simp[hu] at hS
        rename_i fs
        have hm:=run_places P w fs.toList pl hS
        have hzr:(zeroValue t).run P w=.ok zv w:=by simp[zeroValue,run_info hi,hzz]
        simp only[execOp,ho]
        simp only[Instr.build,Sem.run_bind,hzr,Result.andThen_ok,run_under hu,Array.mapM_eq_mapM_toList,Sem.run_map]
        have hpv':(ps.toArray.map fun (p:Nat × Operand)=>(p.1,a.eval p.2)).toList=pv:=by simpa using hpv
        rw[hm]
        simp only[Result.andThen_ok,hpv',hzc,hf,Sem.run_pure]
def splN (xs:List Nat) (j:Nat) (ys:List Nat):List Nat:=xs.take j++ys++xs.drop (j+ys.length)
theorem spl_nats (xs ys:List Nat) (j:Nat) (h:j+ys.length≤xs.length):spl (nats k xs) j (nats k ys)=nats k (splN xs j ys):=by
  rw[spl_eq _ _ _ (by simpa using h)]
  simp[splN,nats,List.map_take,List.map_drop]
theorem splN_length {xs ys:List Nat} {j:Nat} (h:j+ys.length≤xs.length):(splN xs j ys).length=xs.length:=by
  simp[splN];omega
theorem e_cpyN {ca:Call} {q2:Option Addr} {sl sc dl dc e by':Nat} {zs:List Value} {xs ys:List Nat} {sg:Seg} (i j:Nat) (ho:o.op=.call ca) (hc:ca.callee=.builtin .copy) (hargs:evs ρ ca.args.toList=some [.slice (some ⟨sg.b,q,none⟩) dl dc,.slice q2 sl sc]) (hat:ca.argTypes= #[t,t]) (hP:sliceE P t=some (e,zs,1,by'))
    (hs:nthS i l=some sg) (hq:q=sg.o+j) (hsrc:Src l r q2 (nats k ys)) (hlen:ys.length=min sl dl) (hcs:sg.cs=nats k xs∧j+ys.length≤xs.length) (hd:o.dst=some d) (hnd:Nat.blt d K.n=true):
    Eff P K ρ l r o (fun ρ' l'=>ρ'=(d,.int .i64 ((min sl dl:Nat):Int))::ρ∧l'=setS i ⟨sg.b,sg.o,nats k (splN xs j ys),sg.sh⟩ l):=by
  have:=e_cpy (K:=K) i j ho hc hargs hat hP hs hq hsrc (by simp[hlen]) (by rw[hcs.1];simpa using hcs.2) (nats_one _) hd hnd
  rwa [hcs.1,spl_nats _ _ _ hcs.2] at this
end
theorem or_lt8 {m n:Nat} (h:m<256) (k:n<256):m|||n<256:=Nat.or_lt_two_pow (n:=8) h k
theorem or_lt32 {m n:Nat} (h:m<4294967296) (k:n<4294967296):m|||n<4294967296:=Nat.or_lt_two_pow (n:=32) h k
theorem or_lt64 {m n:Nat} (h:m<18446744073709551616) (k:n<18446744073709551616):m|||n<18446744073709551616:=Nat.or_lt_two_pow (n:=64) h k
def Bytes (xs:List Nat):Prop:=∀x ∈ xs,x<256
theorem Bytes.at_ {xs:List Nat} (h:Bytes xs) (i:Nat):xs.getD i 0<256:=by
  rw[List.getD_eq_getElem?_getD]
  rcases Nat.lt_or_ge i xs.length with hi|hi
  · simp only[hi,List.getElem?_eq_getElem,Option.getD_some];exact h _ (List.getElem_mem hi)
  · simp[List.getElem?_eq_none hi]
def le32 (xs:List Nat) (k:Nat):Nat:=((xs.getD k 0|||xs.getD (k+1) 0*2^8%4294967296)|||xs.getD (k+2) 0*2^16%4294967296)|||xs.getD (k+3) 0*2^24%4294967296
theorem le32_lt {xs:List Nat} (h:Bytes xs) (k:Nat):le32 xs k<4294967296:=by
  have h0:=h.at_ k
  unfold le32
  exact or_lt32 (or_lt32 (or_lt32 Om Om) Om) Om
def le64 (xs:List Nat) (k:Nat):Nat:=((((((xs.getD k 0|||xs.getD (k+1) 0*2^8%18446744073709551616)|||xs.getD (k+2) 0*2^16%18446744073709551616)|||xs.getD (k+3) 0*2^24%18446744073709551616)|||xs.getD (k+4) 0*2^32%18446744073709551616)|||xs.getD (k+5) 0*2^40%18446744073709551616)|||xs.getD (k+6) 0*2^48%18446744073709551616)|||xs.getD (k+7) 0*2^56%18446744073709551616
theorem le64_lt {xs:List Nat} (h:Bytes xs) (k:Nat):le64 xs k<18446744073709551616:=by
  have h0:=h.at_ k
  unfold le64
  exact or_lt64 (or_lt64 (or_lt64 (or_lt64 (or_lt64 (or_lt64 (or_lt64 Om Om) Om) Om) Om) Om) Om) Om
def blen (n:Nat):Nat:=if n=0 then 0 else Nat.log2 n+1
theorem log2_div (n k:Nat) (h:2^k≤n):Nat.log2 n=k+Nat.log2 (n/2^k):=by
  induction k generalizing n with
  |zero=>simp
  |succ k ih=>
    have h2:2≤n:=Nat.le_trans (by have:1≤2^k:=Nat.one_le_two_pow;rw[Nat.pow_succ];omega) h
    rw[Nat.log2_def,if_pos h2,ih (n/2) (by rw[Nat.le_div_iff_mul_le Om, ←Nat.pow_succ];exact h),Nat.div_div_eq_div_mul,show 2*2^k=2^(k+1) by rw[Nat.pow_succ,Nat.mul_comm]]
    omega
theorem blen_div (n k:Nat) (h:2^k≤n):blen n=k+blen (n/2^k):=by
  have h1:n/2^k≠0:=by
    have:=(Nat.le_div_iff_mul_le (x:=1) (y:=n) (Nat.pow_pos (n:=k) (show 0<2 by omega))).2 Om
    omega
  have h0:n≠0:=by intro e;subst e;simp at h1
  unfold blen
  rw[if_neg h0,if_neg h1,log2_div n k h]
  omega
theorem blen_le {n k:Nat} (h:n<2^k):blen n≤k:=by
  unfold blen
  split
  · omega
  · rename_i h0
    have:=(Nat.log2_lt h0).2 h
    omega
def tab8:ByteArray:=⟨#[0,1,2,2,3,3,3,3,4,4,4,4,4,4,4,4,5,5,5,5,5,5,5,5,5,5,5,5,5,5,5,5,6,6,6,6,6,6,6,6,6,6,6,6,6,6,6,6,6,6,6,6,6,6,6,6,6,6,6,6,6,6,6,6,7,7,7,7,7,7,7,7,7,7,7,7,7,7,7,7,7,7,7,7,7,7,7,7,7,7,7,7,7,7,7,7,7,7,7,7,7,7,7,7,7,7,7,7,7,7,7,7,7,7,7,7,7,7,7,7,7,7,7,7,7,7,7,7,8,8,8,8,8,8,8,8,8,8,8,8,8,8,8,8,8,8,8,8,8,8,8,8,8,8,8,8,8,8,8,8,8,8,8,8,8,8,8,8,8,8,8,8,8,8,8,8,8,8,8,8,8,8,8,8,8,8,8,8,8,8,8,8,8,8,8,8,8,8,8,8,8,8,8,8,8,8,8,8,8,8,8,8,8,8,8,8,8,8,8,8,8,8,8,8,8,8,8,8,8,8,8,8,8,8,8,8,8,8,8,8,8,8,8,8,8,8,8,8,8,8,8,8,8,8,8,8]⟩
theorem tab8_ok:∀m:Nat,m<256→tab8[m]?.map UInt8.toNat=some (blen m):=by decide+kernel
theorem blen_pos {n:Nat} (h:0<n):0<blen n:=by
  unfold blen;rw[if_neg Om];omega
theorem blen_ge {n:Nat} (h:0<n):2^(blen n-1)≤n:=by
  unfold blen;rw[if_neg Om]
  exact Nat.log2_self_le Om
theorem blen_lt (n:Nat):n<2^blen n:=by
  unfold blen
  split
  · rename_i h;subst h;decide
  · exact Nat.lt_log2_self
structure BR where
  off:Nat
  val:Nat
  rd:Nat
def BR.adv (s:BR) (n:Nat):BR:=⟨s.off,s.val*2^(n&&&63)%18446744073709551616,(s.rd+n)%256⟩
def BR.load4 (xs:List Nat) (k:Nat) (s:BR):BR:=⟨s.off-4,s.val|||le32 xs (k+(s.off-4))*2^(s.rd-32)%18446744073709551616,s.rd-32⟩
def BR.fillFast (xs:List Nat) (k:Nat) (s:BR):BR:=if s.rd<32 then s else s.load4 xs k
def BR.load1 (xs:List Nat) (k:Nat) (s:BR):BR:=⟨s.off-1,s.val|||xs.getD (k+(s.off-1)) 0*2^(s.rd-8)%18446744073709551616,s.rd-8⟩
def BR.loads (xs:List Nat) (k:Nat):Nat→BR→BR
  |0,s=>s
  |n+1,s=>(BR.loads xs k n s).load1 xs k
def BR.fill (t:Nat) (xs:List Nat) (k:Nat) (s:BR):BR:=if s.rd<32 then s else if t≤s.off then s.load4 xs k else BR.loads xs k s.off s
def BR.start (t:Nat) (xs:List Nat) (k len:Nat):BR:=if 8≤len then ⟨len-8,le64 xs (k+(len-8)),0⟩ else BR.fill t xs k (BR.fill t xs k ⟨len,0,64⟩)
def BR.init (t:Nat) (xs:List Nat) (k len:Nat):BR:=(BR.start t xs k len).adv (8-(blen (xs.getD (k+(len-1)) 0)-1))
def BR.peek (s:BR) (n:Nat):Nat:=s.val/2^((64-n)&&&63)%65536
def BR.left (s:BR):Nat:=s.off*8+(64-s.rd)
structure BR.OK (len:Nat) (s:BR):Prop where
  off:s.off≤len
  val:s.val<18446744073709551616
  rd:s.rd<256
theorem BR.OK.load4 {xs:List Nat} {k len:Nat} {s:BR} (h:s.OK len):(s.load4 xs k).OK len:=
  ⟨by have:=h.off;simp[BR.load4];omega,or_lt64 h.val (Nat.mod_lt _ Od),by have:=h.rd;simp[BR.load4];omega⟩
theorem BR.OK.adv {len:Nat} {s:BR} (h:s.OK len) (n:Nat):(s.adv n).OK len:=⟨h.off,Nat.mod_lt _ Od,Nat.mod_lt _ Od⟩
theorem BR.OK.load1 {xs:List Nat} {k len:Nat} {s:BR} (h:s.OK len):(s.load1 xs k).OK len:=
  ⟨by have:=h.off;simp[BR.load1];omega,or_lt64 h.val (Nat.mod_lt _ Od),by have:=h.rd;simp[BR.load1];omega⟩
theorem BR.OK.loads {xs:List Nat} {k len:Nat} {s:BR} (h:s.OK len):∀n,(BR.loads xs k n s).OK len
  |0=>h
  |n+1=>(BR.OK.loads h n).load1
theorem BR.loads_off {xs:List Nat} {k:Nat} {s:BR}:∀n,(BR.loads xs k n s).off=s.off-n
  |0=>rfl
  |n+1=>by simp[BR.loads,BR.load1,BR.loads_off n];omega
theorem BR.loads_rd {xs:List Nat} {k:Nat} {s:BR}:∀n,(BR.loads xs k n s).rd=s.rd-8*n
  |0=>rfl
  |n+1=>by simp[BR.loads,BR.load1,BR.loads_rd n];omega
theorem BR.OK.fill {t:Nat} {xs:List Nat} {k len:Nat} {s:BR} (h:s.OK len):(BR.fill t xs k s).OK len:=by
  unfold BR.fill;split
  · exact h
  · split
    · exact h.load4
    · exact h.loads _
theorem BR.fill_rd {t:Nat} {xs:List Nat} {k:Nat} {s:BR} (h:s.rd≤64):(BR.fill t xs k s).rd≤64:=by
  unfold BR.fill;split
  · exact h
  · split
    · simp[BR.load4];omega
    · rw[BR.loads_rd];omega
theorem BR.fill_start {t:Nat} {xs:List Nat} {k len:Nat} (ht:4≤t) (hl:len<8):8*(BR.fill t xs k ⟨len,0,64⟩).off≤(BR.fill t xs k ⟨len,0,64⟩).rd:=by
  unfold BR.fill
  rw[if_neg Oi]
  split
  · simp[BR.load4];omega
  · rw[BR.loads_off,BR.loads_rd];simp
def tailV (xs:List Nat) (k:Nat):Nat→Nat
  |0=>0
  |n+1=>tailV xs k n+xs.getD (k+n) 0*2^(8*n)
theorem tailV_lt {xs:List Nat} (h:Bytes xs) (k:Nat):∀n,tailV xs k n<2^(8*n)
  |0=>by simp[tailV]
  |n+1=>by
    have h1:=tailV_lt h k n
    have h2:=h.at_ (k+n)
    have h3:xs.getD (k+n) 0*2^(8*n)≤255*2^(8*n):=Nat.mul_le_mul_right _ Om
    have h4:2^(8*(n+1))=256*2^(8*n):=by rw[show 8*(n+1)=8+8*n by omega,Nat.pow_add]
    simp only[tailV]
    omega
theorem or_shift {a b n:Nat} (h:b<2^n):a*2^n|||b=a*2^n+b:=by
  have:=Nat.shiftLeft_add_eq_or_of_lt h a
  rw[Nat.shiftLeft_eq] at this
  exact this.symm
theorem or_shift' {a b n:Nat} (h:b<2^n):b|||a*2^n=a*2^n+b:=by rw[Nat.or_comm];exact or_shift h
theorem le32_sum {xs:List Nat} (h:Bytes xs) (k:Nat):le32 xs k=xs.getD k 0+xs.getD (k+1) 0*2^8+xs.getD (k+2) 0*2^16+xs.getD (k+3) 0*2^24:=by
  have h0:=h.at_ k
  have h1:=h.at_ (k+1)
  have h2:=h.at_ (k+2)
  have h3:=h.at_ (k+3)
  unfold le32
  rw[Nat.mod_eq_of_lt Om,Nat.mod_eq_of_lt Om,Nat.mod_eq_of_lt Om,or_shift' (n:=8) Om,or_shift' (n:=16) Om,or_shift' (n:=24) Om]
  omega
theorem le64_sum {xs:List Nat} (h:Bytes xs) (k:Nat):le64 xs k=tailV xs k 8:=by
  have h0:=h.at_ k
  have h1:=h.at_ (k+1)
  have h2:=h.at_ (k+2)
  have h3:=h.at_ (k+3)
  have h4:=h.at_ (k+4)
  have h5:=h.at_ (k+5)
  have h6:=h.at_ (k+6)
  have h7:=h.at_ (k+7)
  unfold le64
  rw[Nat.mod_eq_of_lt Om,Nat.mod_eq_of_lt Om,Nat.mod_eq_of_lt Om,Nat.mod_eq_of_lt Om,Nat.mod_eq_of_lt Om,Nat.mod_eq_of_lt Om,Nat.mod_eq_of_lt Om,
    or_shift' (n:=8) Om,or_shift' (n:=16) Om,or_shift' (n:=24) Om,or_shift' (n:=32) Om,or_shift' (n:=40) Om,or_shift' (n:=48) Om,or_shift' (n:=56) Om]
  simp only[tailV,Nat.add_zero]
  omega
structure Pos (xs:List Nat) (k len:Nat) (s:BR) (n R:Nat):Prop where
  ok:s.OK len
  rd:s.rd≤64
  n:n=8*s.off+(64-s.rd)
  dv:∃q,s.val=q*2^s.rd∧q<2^(64-s.rd)∧R=q*2^(8*s.off)+tailV xs k s.off
theorem Pos.adv {xs:List Nat} {k len:Nat} {s:BR} {n R m:Nat} (h:Pos xs k len s n R) (hb:Bytes xs) (hm:m<64) (hr:s.rd+m≤64):Pos xs k len (s.adv m) (n-m) (R%2^(n-m)):=by
  obtain⟨q,hv,hq,hR⟩:=h.dv
  have h63:m&&&63=m:=by rw[show(63:Nat)=2^6-1 from rfl,Nat.and_two_pow_sub_one_eq_mod];exact Nat.mod_eq_of_lt hm
  have hrd:(s.adv m).rd=s.rd+m:=by simp[BR.adv];omega
  have hp:(2:Nat)^64=2^(64-s.rd-m)*2^(s.rd+m):=by rw[←Nat.pow_add];congr 1;omega
  have hval:(s.adv m).val=(q%2^(64-s.rd-m))*2^(s.rd+m):=by
    show s.val*2^(m&&&63)%18446744073709551616=_
    rw[h63,hv,show(18446744073709551616:Nat)=2^64 from rfl,hp,Nat.mul_assoc, ←Nat.pow_add,Nat.mul_mod_mul_right]
  refine⟨h.ok.adv m,Om,by rw[h.n,hrd];show _=8*s.off+_;omega,q%2^(64-s.rd-m),by rw[hval,hrd],?_,?_⟩
  · rw[hrd,show 64-(s.rd+m)=64-s.rd-m by omega]
    exact Nat.mod_lt _ (Nat.pow_pos Om)
  · show R%2^(n-m)=q%2^(64-s.rd-m)*2^(8*s.off)+tailV xs k s.off
    have hn:n-m=(64-s.rd-m)+8*s.off:=by rw[h.n];omega
    have ht:=tailV_lt hb k s.off
    rw[hR,hn,Nat.pow_add]
    have e1:q*2^(8*s.off)+tailV xs k s.off=2^(8*s.off)*q+tailV xs k s.off:=by rw[Nat.mul_comm]
    rw[e1,Nat.mul_comm (2^(64-s.rd-m)),Nat.mod_mul,Nat.mul_add_mod,Nat.mod_eq_of_lt ht,Nat.mul_add_div (Nat.pow_pos Om),Nat.div_eq_of_lt ht]
    simp only[Nat.add_zero]
    rw[Nat.mul_comm,Nat.add_comm]
theorem tailV_succ {xs:List Nat} {k n:Nat} (h:0<n):tailV xs k n=tailV xs k (n-1)+xs.getD (k+(n-1)) 0*2^(8*(n-1)):=by
  cases n with
  |zero=>omega
  |succ n=>rfl
theorem Pos.load1 {xs:List Nat} {k len:Nat} {s:BR} {n R:Nat} (h:Pos xs k len s n R) (hb:Bytes xs) (hr:8≤s.rd) (ho:0<s.off):Pos xs k len (s.load1 xs k) n R:=by
  obtain⟨q,hv,hq,hR⟩:=h.dv
  have hx:=hb.at_ (k+(s.off-1))
  have hrd:=h.rd
  have h8:(2:Nat)^s.rd=256*2^(s.rd-8):=by rw[show s.rd=8+(s.rd-8) by omega,Nat.pow_add,show 8+(s.rd-8)-8=s.rd-8 by omega]
  have hlt:xs.getD (k+(s.off-1)) 0*2^(s.rd-8)<2^s.rd:=by
    rw[h8];exact Nat.mul_lt_mul_of_pos_right hx (Nat.pow_pos Om)
  have h64:(2:Nat)^s.rd≤18446744073709551616:=Nat.pow_le_pow_right (n:=2) Om (show s.rd≤64 from hrd)
  have hval:(s.load1 xs k).val=(q*256+xs.getD (k+(s.off-1)) 0)*2^(s.rd-8):=by
    show s.val|||_%18446744073709551616=_
    rw[Nat.mod_eq_of_lt Om,hv,or_shift hlt,h8,Nat.add_mul,Nat.mul_assoc]
  refine⟨h.ok.load1,by show s.rd-8≤64;omega,by rw[h.n];show _=8*(s.off-1)+(64-(s.rd-8));omega,q*256+xs.getD (k+(s.off-1)) 0,hval,?_,?_⟩
  · show _<2^(64-(s.rd-8))
    rw[show 64-(s.rd-8)=(64-s.rd)+8 by omega,Nat.pow_add]
    omega
  · show R=(q*256+xs.getD (k+(s.off-1)) 0)*2^(8*(s.off-1))+tailV xs k (s.off-1)
    rw[hR,tailV_succ ho,Nat.add_mul,Nat.mul_assoc,show(256:Nat)*2^(8*(s.off-1))=2^(8*s.off) by rw[show(256:Nat)=2^8 from rfl, ←Nat.pow_add];congr 1;omega]
    omega
theorem Pos.loads {xs:List Nat} {k len:Nat} {s:BR} {n R:Nat} (h:Pos xs k len s n R) (hb:Bytes xs):∀m,8*m≤s.rd→m≤s.off→Pos xs k len (BR.loads xs k m s) n R
  |0,_,_=>h
  |m+1,h1,h2=>by
    have ih:=Pos.loads h hb m Om Om
    exact ih.load1 hb (by rw[BR.loads_rd];omega) (by rw[BR.loads_off];omega)
theorem Pos.load4 {xs:List Nat} {k len:Nat} {s:BR} {n R:Nat} (h:Pos xs k len s n R) (hb:Bytes xs) (hr:32≤s.rd) (ho:4≤s.off):Pos xs k len (s.load4 xs k) n R:=by
  obtain⟨q,hv,hq,hR⟩:=h.dv
  have hx:=le32_lt hb (k+(s.off-4))
  have hrd:=h.rd
  have h8:(2:Nat)^s.rd=4294967296*2^(s.rd-32):=by
    rw[show s.rd=32+(s.rd-32) by omega,Nat.pow_add,show 32+(s.rd-32)-32=s.rd-32 by omega]
  have hlt:le32 xs (k+(s.off-4))*2^(s.rd-32)<2^s.rd:=by
    rw[h8];exact Nat.mul_lt_mul_of_pos_right hx (Nat.pow_pos Om)
  have h64:(2:Nat)^s.rd≤18446744073709551616:=Nat.pow_le_pow_right (n:=2) Om (show s.rd≤64 from hrd)
  have hval:(s.load4 xs k).val=(q*4294967296+le32 xs (k+(s.off-4)))*2^(s.rd-32):=by
    show s.val|||_%18446744073709551616=_
    rw[Nat.mod_eq_of_lt Om,hv,or_shift hlt,h8,Nat.add_mul,Nat.mul_assoc]
  refine⟨h.ok.load4,by show s.rd-32≤64;omega,by rw[h.n];show _=8*(s.off-4)+(64-(s.rd-32));omega,q*4294967296+le32 xs (k+(s.off-4)),hval,?_,?_⟩
  · show _<2^(64-(s.rd-32))
    rw[show 64-(s.rd-32)=(64-s.rd)+32 by omega,Nat.pow_add]
    omega
  · show R=(q*4294967296+le32 xs (k+(s.off-4)))*2^(8*(s.off-4))+tailV xs k (s.off-4)
    obtain⟨f,hf⟩:∃f,s.off=f+4:=⟨s.off-4,Om⟩
    rw[hR,hf,Nat.add_sub_cancel,le32_sum hb]
    simp only[tailV]
    rw[show 8*(f+4)=8*f+32 by omega,show 8*(f+3)=8*f+24 by omega,show 8*(f+2)=8*f+16 by omega,show 8*(f+1)=8*f+8 by omega]
    simp only[Nat.pow_add,Nat.add_assoc k]
    generalize 2^(8*f)=F
    generalize tailV xs k f=T
    generalize xs.getD (k+f) 0=a0
    generalize xs.getD (k+(f+1)) 0=a1
    generalize xs.getD (k+(f+2)) 0=a2
    generalize xs.getD (k+(f+3)) 0=a3
    simp only[Nat.add_mul,Nat.mul_assoc,Nat.reducePow]
    simp only[Nat.mul_comm F]
    omega
theorem Pos.fillFast {xs:List Nat} {k len:Nat} {s:BR} {n R:Nat} (h:Pos xs k len s n R) (hb:Bytes xs) (ho:32≤s.rd→4≤s.off):Pos xs k len (s.fillFast xs k) n R∧(s.fillFast xs k).rd≤32:=by
  unfold BR.fillFast
  split
  · exact⟨h,Om⟩
  · exact⟨h.load4 hb Om (ho Om),by have:=h.rd;simp[BR.load4];omega⟩
theorem Pos.fill {t:Nat} {xs:List Nat} {k len:Nat} {s:BR} {n R:Nat} (h:Pos xs k len s n R) (hb:Bytes xs) (ht:4≤t) (h8:32≤s.rd→s.off<t→8*s.off≤s.rd):Pos xs k len (BR.fill t xs k s) n R∧((BR.fill t xs k s).rd≤32∨(BR.fill t xs k s).off=0):=by
  unfold BR.fill
  split
  · exact⟨h,Om⟩
  · split
    · exact⟨h.load4 hb Om Om,by have:=h.rd;simp[BR.load4];omega⟩
    · exact⟨h.loads hb _ (h8 Om Om) (Nat.le_refl _),.inr (by rw[BR.loads_off];omega)⟩
theorem Pos.top {xs:List Nat} {k len:Nat} {s:BR} {n R L:Nat} (h:Pos xs k len s n R) (hb:Bytes xs) (hL:L≤64) (hr:s.rd+L≤64∨s.off=0):s.val/2^(64-L)=R*2^L/2^n:=by
  obtain⟨q,hv,hq,hR⟩:=h.dv
  have hrd:=h.rd
  have ht:=tailV_lt hb k s.off
  have pos:∀m:Nat,0<2^m:=fun m=>Nat.pow_pos Om
  rcases Nat.lt_or_ge 64 (s.rd+L) with hlt|hle
  · have h0:s.off=0:=Om
    rw[h0] at hR ht
    simp[tailV] at hR
    have hn:n=64-s.rd:=by rw[h.n,h0];omega
    obtain⟨e,he⟩:∃e,s.rd=(64-L)+e:=⟨s.rd+L-64,Om⟩
    rw[hv,hR,hn,he,Nat.pow_add, ←Nat.mul_assoc,Nat.mul_right_comm,Nat.mul_div_cancel _ (pos _)]
    have hL2:(2:Nat)^L=2^e*2^(64-(64-L+e)):=by rw[←Nat.pow_add];congr 1;omega
    rw[hL2, ←Nat.mul_assoc,Nat.mul_div_cancel _ (pos _)]
  · obtain⟨e,he⟩:∃e,64-L=s.rd+e:=⟨64-L-s.rd,Om⟩
    have hn:n=(8*s.off+e)+L:=by rw[h.n];omega
    rw[hv,he,hn,Nat.pow_add,Nat.pow_add,Nat.mul_div_mul_right _ _ (pos _), ←Nat.div_div_eq_div_mul,Nat.mul_div_cancel _ (pos _),hR,Nat.pow_add, ←Nat.div_div_eq_div_mul,Nat.add_comm,Nat.add_mul_div_right _ _ (pos _),Nat.div_eq_of_lt ht,Nat.zero_add]
def tN (cd:Nat→Nat × Nat):List Nat→Nat
  |[]=>0
  |c::t=>(cd c).1+tN cd t
def tR (cd:Nat→Nat × Nat):List Nat→Nat
  |[]=>0
  |c::t=>(cd c).2*2^tN cd t+tR cd t
structure Tab (dt:List Nat) (L:Nat) (cd:Nat→Nat × Nat) (S:Nat→Prop):Prop where
  L1:1≤L
  L16:L≤11
  one:∀c,S c→c<256∧1≤(cd c).1∧(cd c).1≤L∧(cd c).2<2^(cd c).1
  at_:∀c,S c→∀v,v<2^L→v/2^(L-(cd c).1)=(cd c).2→dt.getD v 0=(cd c).1+256*c
structure RdT (xs:List Nat) (k len:Nat) (cd:Nat→Nat × Nat) (S:Nat→Prop) (s:BR) (t:List Nat):Prop where
  pos:Pos xs k len s (tN cd t) (tR cd t)
  all:∀c ∈ t,S c
theorem tN_le {dt:List Nat} {L:Nat} {cd:Nat→Nat × Nat} {S:Nat→Prop} (h:Tab dt L cd S):∀t:List Nat,(∀c ∈ t,S c)→tN cd t≤L*t.length∧t.length≤tN cd t
  |[],_=>by simp[tN]
  |c::t,ha=>by
    have:=tN_le h t (fun x hx=>ha x (List.mem_cons_of_mem _ hx))
    have:=h.one c (ha c List.mem_cons_self)
    simp only[tN,List.length_cons,Nat.mul_add]
    omega
theorem tR_lt {dt:List Nat} {L:Nat} {cd:Nat→Nat × Nat} {S:Nat→Prop} (h:Tab dt L cd S):∀t:List Nat,(∀c ∈ t,S c)→tR cd t<2^tN cd t
  |[],_=>by simp[tN,tR]
  |c::t,ha=>by
    have h1:=tR_lt h t (fun x hx=>ha x (List.mem_cons_of_mem _ hx))
    have h2:=(h.one c (ha c List.mem_cons_self)).2.2.2
    have h3:(cd c).2*2^tN cd t≤(2^(cd c).1-1)*2^tN cd t:=Nat.mul_le_mul_right _ Om
    rw[Nat.sub_mul,Nat.one_mul, ←Nat.pow_add] at h3
    have:2^tN cd t≤2^((cd c).1+tN cd t):=Nat.pow_le_pow_right Om Om
    simp only[tN,tR]
    omega
section
variable {xs dt:List Nat} {k len L:Nat} {cd:Nat→Nat × Nat} {S:Nat→Prop} {s:BR} {t:List Nat}
theorem RdT.look (h:RdT xs k len cd S s t) (hT:Tab dt L cd S) (hb:Bytes xs) (ht:0<t.length) (hr:s.rd+L≤64∨s.off=0):
    dt.getD (s.val/2^(64-L)) 0=(cd (t.getD 0 0)).1+256*t.getD 0 0∧s.val/2^(64-L)<2^L:=by
  cases t with
  |nil=>simp at ht
  |cons c t=>
    have hc:=h.all c List.mem_cons_self
    obtain⟨h256,h1,hl,h2⟩:=hT.one c hc
    have hL:=hT.L16
    have pos:∀m:Nat,0<2^m:=fun m=>Nat.pow_pos Om
    have htR:=tR_lt hT t (fun x hx=>h.all x (List.mem_cons_of_mem _ hx))
    have hlt:s.val/2^(64-L)<2^L:=by
      rw[Nat.div_lt_iff_lt_mul (pos _), ←Nat.pow_add,show L+(64-L)=64 by omega]
      exact h.pos.ok.val
    refine⟨hT.at_ c hc _ hlt ?_,hlt⟩
    rw[h.pos.top hb Om hr]
    show((cd c).2*2^tN cd t+tR cd t)*2^L/2^((cd c).1+tN cd t)/2^(L-(cd c).1)=_
    rw[Nat.div_div_eq_div_mul, ←Nat.pow_add,show(cd c).1+tN cd t+(L-(cd c).1)=tN cd t+L by omega,Nat.pow_add,Nat.mul_div_mul_right _ _ (pos _),Nat.add_comm,Nat.add_mul_div_right _ _ (pos _),Nat.div_eq_of_lt htR,Nat.zero_add]
theorem RdT.next (h:RdT xs k len cd S s t) (hT:Tab dt L cd S) (hb:Bytes xs) (ht:0<t.length) (hr:s.rd+L≤64∨s.off=0):
    RdT xs k len cd S (s.adv (cd (t.getD 0 0)).1) (t.drop 1)∧1≤(cd (t.getD 0 0)).1∧(cd (t.getD 0 0)).1≤L∧t.getD 0 0<256∧s.rd+(cd (t.getD 0 0)).1≤64:=by
  cases t with
  |nil=>simp at ht
  |cons c t=>
    have hc:=h.all c List.mem_cons_self
    obtain⟨h256,h1,hl,h2⟩:=hT.one c hc
    have hL:=hT.L16
    have htR:=tR_lt hT t (fun x hx=>h.all x (List.mem_cons_of_mem _ hx))
    have hn:tN cd (c::t)=(cd c).1+tN cd t:=rfl
    have hrd:s.rd+(cd c).1≤64:=by
      rcases hr with h'|h'
      · omega
      · have:=h.pos.n;rw[hn,h'] at this;omega
    have ha:=h.pos.adv hb (m:=(cd c).1) Om hrd
    refine⟨⟨?_,fun x hx=>h.all x (List.mem_cons_of_mem _ (by simpa using hx))⟩,h1,hl,h256,hrd⟩
    rw[hn,show(cd c).1+tN cd t-(cd c).1=tN cd t by omega] at ha
    show Pos xs k len (s.adv (cd c).1) (tN cd t) (tR cd t)
    have:tR cd (c::t)%2^tN cd t=tR cd t:=by
      show((cd c).2*2^tN cd t+tR cd t)%_=_
      rw[Nat.mul_comm,Nat.mul_add_mod,Nat.mod_eq_of_lt htR]
    rwa [this] at ha
end
section
variable {P:Program} {K:Kx} {Q:Exit→Act→World→Prop} {ρ:Fram} {l r p rest:List Seg} {o:Oper} {v:Value} {x y z:Operand} {t s f sz n m c lo hi len cap b q j d:Nat} {k k':IntKind}
theorem G.pick {cd:Code} (is:List Nat) (hp:pickS is l=some (p,rest)) (h:G P K Q cd ρ p r):G P K Q cd ρ l r:=fun a w ha=>h a w (ha.pick is hp)
theorem GQ.pick {e:Exit} (is:List Nat) (hp:pickS is l=some (p,rest)) (h:GQ K Q e ρ p r):GQ K Q e ρ l r:=fun a w ha=>h a w (ha.pick is hp)
theorem G.meetK {x:Code} (M:Fram→List Seg→Prop) (h:G P K (Exit.then (fun a w=>∃ρ l,M ρ l∧At K ρ l r a w) Q) x ρ l r) (k:∀ρ l,M ρ l→GQ K Q .normal ρ l r):G P K Q x ρ l r:=by
  refine fun a w ha=>wp_mono (h a w ha) ?_
  intro e a' w' hq
  cases e with
  |normal=>obtain⟨ρ',l',hM,hA⟩:=hq;exact k ρ' l' hM a' w' hA
  |_=>exact hq
def brC (i:Value) (s:BR):List Value:=[i,.int .u64 ((s.off:Nat):Int),.int .u64 ((s.val:Nat):Int),.int .u8 ((s.rd:Nat):Int)]
theorem Con.some' {f:FuncId} {args:List Value} {u iv:Value} {b o:Nat} {sh:Option (TypeId × Nat)} {s0:BR} (R:BR→Prop) (h:Con P f args l r (fun v l'=>v=u∧l'=[⟨b,o,brC iv s0,sh⟩])) (hR:R s0):
    Con P f args l r (fun v l'=>v=u∧∃s',R s'∧l'=[⟨b,o,brC iv s',sh⟩]):=h.mono fun v l' ⟨h1,h2⟩=>⟨h1,s0,hR,h2⟩
theorem and_low {m k:Nat} (h:m<2^k):m&&&(2^k-1)=m:=by rw[Nat.and_two_pow_sub_one_eq_mod,Nat.mod_eq_of_lt h]
theorem y_congr {u:Value} (h:OpY P ρ o u) (e:u=v):OpY P ρ o v:=e▸h
theorem peek_eq (s:BR) (L:Nat) (h1:1≤L) (h:L≤16) (hv:s.val<18446744073709551616):s.peek L=s.val/2^(64-L):=by
  unfold BR.peek
  rw[show(64-L)&&&63=64-L by rw[show(63:Nat)=2^6-1 from rfl,Nat.and_two_pow_sub_one_eq_mod];exact Nat.mod_eq_of_lt Om]
  apply Nat.mod_eq_of_lt
  rw[Nat.div_lt_iff_lt_mul (Nat.pow_pos Om)]
  have:(65536:Nat)*2^(64-L)=2^(80-L):=by rw[show(65536:Nat)=2^16 from rfl, ←Nat.pow_add];congr 1;omega
  rw[this]
  exact Nat.lt_of_lt_of_le hv (Nat.pow_le_pow_right (n:=2) Om (show 64≤80-L by omega))
theorem y_taNil {T T':TypeId} {zv:Value} (ho:o.op=.typeAssert x T T' true) (hx:ev ρ x=some .nilIface) (hz:(P.info? T').bind (·.zero)=some zv) (hT:(match P.underlying T' with|some (.pointer _)=>true|_=>false)=true):OpY P ρ o (.tuple #[zv,.bool false]):=fun ac ha w=>by
  cases hu:P.underlying T' with
  |none=>simp[hu] at hT
  |some D=>
    cases D<;>simp[hu] at hT
    cases hi:P.info? T' with
    |none=>simp[hi] at hz
    |some i=>
      simp[hi] at hz
      simp[execOp,ho,ev_ok ha hx,Instr.typeAssert,run_under hu,zeroValue,run_info hi,hz]
theorem y_bz {cs:List Value} (ho:o.op=.build t #[]) (hz:zeroC P t=some cs) (hu:(match P.underlying t with|some (.array _ e)=>(sizeB P e).isSome|_=>false)=true):OpY P ρ o (.agg cs.toArray):=fun ac ha w=>by
  unfold zeroC at hz
  cases hi:P.info? t with
  |none=>simp[hi] at hz
  |some i=>
    cases hzz:i.zero with
    |none=>simp[hi,hzz] at hz
    |some zv=>
      simp[hi,hzz] at hz
      have hzc:zv.cells=cs.toArray:=by apply Array.toList_inj.1;simpa using hz
      cases hu':P.underlying t with
      |none=>simp[hu'] at hu
      |some D=>
        cases D<;>simp[hu'] at hu
        rename_i n e
        obtain⟨sz,hs⟩:=Option.isSome_iff_exists.1 hu
        simp[execOp,ho,Instr.build,zeroValue,run_info hi,hzz,run_under hu',run_size hs,Instr.fill,hzc]
theorem e_boxA {d:Nat} {cs:List Value} (ho:o.op=.box t x) (hx:ev ρ x=some (.agg cs.toArray)) (hd:o.dst=some d) (hn:Nat.blt d K.n=true):
    Eff P K ρ l r o (fun ρ' l'=>∃b,ρ'=(d,.pointer (some ⟨b,0,none⟩))::ρ∧l'=⟨b,0,cs,some (t,cs.length)⟩::l):=
  e_box ho hx rfl hd hn
end
theorem nats_getE {k:IntKind} {xs:List Nat} {j e:Nat} (h:j<xs.length) (he:xs.getD j 0=e):(nats k xs)[j]? =some (.int k ((e:Nat):Int)):=he▸nats_get h
theorem nats_take1E {k:IntKind} {xs:List Nat} {j e:Nat} (h:j<xs.length) (he:xs.getD j 0=e):((nats k xs).drop j).take 1=[.int k ((e:Nat):Int)]:=he▸nats_take1 h
theorem adv_rd {s:BR} {n:Nat} (h:s.rd+n≤64):(s.adv n).rd=s.rd+n:=by simp[BR.adv];omega
theorem RdT.get {xs dt:List Nat} {k len L:Nat} {cd:Nat→Nat × Nat} {S:Nat→Prop} {s:BR} {c:Nat} {t:List Nat} (h:RdT xs k len cd S s (c::t)) (hT:Tab dt L cd S) (hb:Bytes xs) (hr:s.rd+L≤64∨s.off=0):
    ∃n p,s.val/2^(64-L)=p∧dt.getD p 0=n+256*c∧p<2^L∧c<256∧1≤n∧n≤L∧s.rd+n≤64∧tN cd (c::t)=n+tN cd t∧RdT xs k len cd S (s.adv n) t:=by
  obtain⟨h1,h2⟩:=h.look hT hb Oi hr
  obtain⟨h3,h4,h5,h6,h7⟩:=h.next hT hb Oi hr
  exact⟨(cd c).1,_,rfl,h1,h2,h6,h4,h5,h7,rfl,h3⟩
theorem four_of {t:List Nat} (h:4≤t.length):∃c1 c2 c3 c4 t',t=c1::c2::c3::c4::t':=by
  match t,h with
  |c1::c2::c3::c4::t',_=>exact⟨c1,c2,c3,c4,t',rfl⟩
theorem one_of {t:List Nat} (h:0<t.length):∃c t',t=c::t':=by
  match t,h with
  |c::t',_=>exact⟨c,t',rfl⟩
theorem tN_le' {dt:List Nat} {L B:Nat} {cd:Nat→Nat × Nat} {S:Nat→Prop} (h:Tab dt L cd S) (hB:L≤B) {t:List Nat} (ha:∀c ∈ t,S c):tN cd t≤B*t.length∧t.length≤tN cd t:=by
  have h1:=tN_le h t ha
  exact⟨Nat.le_trans h1.1 (Nat.mul_le_mul_right _ hB),h1.2⟩
theorem set_take {ys B:List Nat} {n c:Nat} (h:ys.take n=B) (hn:n<ys.length):(ys.set n c).take (n+1)=B++[c]:=by
  rw[List.take_succ_eq_append_getElem (by simpa using hn),List.take_set_of_le (Nat.le_refl n),h]
  simp
theorem set4 {ys B:List Nat} {n c1 c2 c3 c4:Nat} (h:ys.take n=B) (hn:n+4≤ys.length):((((ys.set (n+0) c1).set (n+1) c2).set (n+2) c3).set (n+3) c4).take (n+4)=B++[c1,c2,c3,c4]:=by
  have h1:=set_take (c:=c1) h Om
  have h2:=set_take (c:=c2) h1 Oz
  have h3:=set_take (c:=c3) h2 Oz
  have h4:=set_take (c:=c4) h3 Oz
  simpa using h4
theorem slice_eq {p:Option Addr} {a a' b b':Nat} (h1:a=a') (h2:b=b'):Value.slice p a b=Value.slice p a' b':=by rw[h1,h2]
theorem range1:Array.range 1= #[0]:=by decide
theorem range2:Array.range 2= #[0,1]:=by decide
theorem range3:Array.range 3= #[0,1,2]:=by decide
theorem pow_le {L m:Nat} (h:L≤m):2^L≤2^m:=Nat.pow_le_pow_right Om h
theorem RdT.fillFast {xs:List Nat} {k len:Nat} {cd:Nat→Nat × Nat} {S:Nat→Prop} {s:BR} {t:List Nat} (h:RdT xs k len cd S s t) (hb:Bytes xs) (ho:32≤s.rd→4≤s.off):
    RdT xs k len cd S (s.fillFast xs k) t∧(s.fillFast xs k).rd≤32∧s.off≤(s.fillFast xs k).off+4∧(s.fillFast xs k).off≤s.off:=by
  obtain⟨h1,h2⟩:=h.pos.fillFast hb ho
  refine⟨⟨h1,h.all⟩,h2,?_,?_⟩<;>(unfold BR.fillFast;split<;>simp[BR.load4]<;>omega)
theorem RdT.fill {xs:List Nat} {k len T:Nat} {cd:Nat→Nat × Nat} {S:Nat→Prop} {s:BR} {t:List Nat} (h:RdT xs k len cd S s t) (hb:Bytes xs) (hT:4≤T) (h8:32≤s.rd→s.off<T→8*s.off≤s.rd):
    RdT xs k len cd S (BR.fill T xs k s) t∧((BR.fill T xs k s).rd≤32∨(BR.fill T xs k s).off=0)∧(BR.fill T xs k s).off≤s.off:=by
  obtain⟨h1,h2⟩:=h.pos.fill hb hT h8
  refine⟨⟨h1,h.all⟩,h2,?_⟩
  unfold BR.fill;split
  · omega
  · split
    · simp[BR.load4]
    · rw[BR.loads_off];omega
theorem RdT.load1 {xs:List Nat} {k len:Nat} {cd:Nat→Nat × Nat} {S:Nat→Prop} {s:BR} {t:List Nat} (h:RdT xs k len cd S s t) (hb:Bytes xs) (hr:8≤s.rd) (ho:0<s.off):RdT xs k len cd S (s.load1 xs k) t:=⟨h.pos.load1 hb hr ho,h.all⟩
theorem shr_peek (v L:Nat) (h:L≤8) (hv:v<18446744073709551616):v/2^56%256/2^(8-L)=v/2^(64-L):=by
  rw[Nat.mod_eq_of_lt Om,Nat.div_div_eq_div_mul, ←Nat.pow_add]
  congr 2;omega
theorem RdT.left {xs:List Nat} {k len:Nat} {cd:Nat→Nat × Nat} {S:Nat→Prop} {s:BR} {t:List Nat} (h:RdT xs k len cd S s t):tN cd t=8*s.off+(64-s.rd)∧s.rd≤64∧s.off≤len:=⟨h.pos.n,h.pos.rd,h.pos.ok.off⟩
structure Rd (q:Option Addr) (n sz:Nat) (row:List Value) (s:Seg) (j:Nat):Prop where
  len:row.length=n*sz
  ad:0<n→q=some ⟨s.b,s.o+j,none⟩
  cs:(s.cs.drop j).take row.length=row
theorem Rd.get {q:Option Addr} {n sz:Nat} {row:List Value} {s:Seg} {j i:Nat} (h:Rd q n sz row s j) (hi:i<row.length):s.cs[j+i]? =row[i]? :=by
  have h1:=congrArg (fun l:List Value=>l[i]?) h.cs
  simp only[List.getElem?_take,if_pos hi,List.getElem?_drop] at h1
  exact h1
theorem Rd.getN {q:Option Addr} {n:Nat} {k:IntKind} {xs:List Nat} {s:Seg} {j i:Nat} (h:Rd q n 1 (nats k xs) s j) (hi:i<n):s.cs[j+i]? =some (.int k ((xs.getD i 0:Nat):Int)):=by
  have hl:xs.length=n:=by have:=h.len;simpa using this
  rw[h.get Oz,nats_get Om]
theorem Rd.lenN {q:Option Addr} {n:Nat} {k:IntKind} {xs:List Nat} {s:Seg} {j:Nat} (h:Rd q n 1 (nats k xs) s j):xs.length=n:=by have:=h.len;simpa using this
theorem Rd.ofGS {q:Option Addr} {b o n sz cap:Nat} {cs row:List Value} {sh:Option (TypeId × Nat)} (hg:GS q b o cs sz cap) (hn:n≤cap) (hp:cs.take (n*sz)=row):Rd q n sz row ⟨b,o,cs,sh⟩ 0:=by
  have hle:n*sz≤cap*sz:=Nat.mul_le_mul_right _ hn
  have hl:row.length=n*sz:=by rw[←hp,List.length_take,hg.len];omega
  refine⟨hl,fun h0=>by have:=hg.some' Om;simpa using this,?_⟩
  rw[hl,List.drop_zero];exact hp
theorem Rd.ofGN {q:Option Addr} {b o n cap:Nat} {k:IntKind} {cs:List Value} {xs:List Nat} {sh:Option (TypeId × Nat)} (hg:GS q b o cs 1 cap) (hn:n≤cap) (hp:cs.take n=nats k xs):Rd q n 1 (nats k xs) ⟨b,o,cs,sh⟩ 0:=Rd.ofGS hg hn (by rw[Nat.mul_one];exact hp)
theorem Rd.ofNats {b o a n j:Nat} {k:IntKind} {xs ys:List Nat} {sh:Option (TypeId × Nat)} (hj:a=o+j) (hy:(xs.drop j).take n=ys) (hn:j+n≤xs.length):Rd (some ⟨b,a,none⟩) n 1 (nats k ys) ⟨b,o,nats k xs,sh⟩ j:=by
  subst hj;subst hy
  refine⟨Oz,fun _=>rfl,nats_src _ _ _⟩
theorem Rd.nil {row:List Value} {s:Seg} {sz:Nat} (h:row=[]):Rd none 0 sz row s 0:=by
  subst h;exact⟨Oi,fun h=>Om,Oi⟩
theorem Rd.cut {q q':Option Addr} {n m lo sz:Nat} {row row':List Value} {s:Seg} {j:Nat} (h:Rd q n sz row s j) (hm:lo+m≤n) (hr:(row.drop (lo*sz)).take (m*sz)=row') (hq:0<m→q'=some ⟨s.b,s.o+(j+lo*sz),none⟩):Rd q' m sz row' s (j+lo*sz):=by
  have hle:lo*sz+m*sz≤n*sz:=by rw[←Nat.add_mul];exact Nat.mul_le_mul_right _ hm
  have hl:row'.length=m*sz:=by rw[←hr,List.length_take,List.length_drop,h.len];omega
  refine⟨hl,hq,?_⟩
  rw[hl, ←hr]
  have h1:=h.cs
  rw[h.len] at h1
  rw[←h1,List.drop_take,List.take_take,List.drop_drop]
  congr 1
  omega
theorem Src.ofRd {l r:List Seg} {q:Option Addr} {n sz:Nat} {row:List Value} {s:Seg} {j:Nat} (i:Nat) (hs:nthS i (l++r)=some s) (h:Rd q n sz row s j):Src l r q row:=by
  rcases Nat.eq_zero_or_pos n with h0|h0
  · left
    have:=h.len
    rw[h0,Nat.zero_mul] at this
    exact List.eq_nil_of_length_eq_zero this
  · exact .inr ⟨s,nthS_mem _ _ _ hs,j,h.ad h0,h.cs⟩
section
variable {P:Program} {K:Kx} {Q:Exit→Act→World→Prop} {ρ:Fram} {l r:List Seg} {o:Oper} {v:Value} {x y z:Operand} {t s f sz n m lo hi len cap b q j:Nat} {k k':IntKind} {p:Option Addr}
theorem y_ixG {q':Nat} (ho:o.op=.indexAddr t x y) (hx:ev ρ x=some (.slice p len cap)) (hy:ev ρ y=some (.int k (m:Nat))) (hP:sliceElem P t=some sz) (h:m<len) (hp:p=some ⟨b,q,none⟩) (hq:q+m*sz=q'):OpY P ρ o (.pointer (some ⟨b,q',none⟩)):=by
  subst hp
  exact y_ix ho hx hy hP h hq
def cutA (p:Option Addr) (lo sz cap:Nat):Option Addr:=p.bind fun a=>some (if cap=lo then a else a.add (lo*sz))
theorem cutA_some {b q lo sz cap q':Nat} {p:Option Addr} (hp:p=some ⟨b,q,none⟩) (h:lo<cap) (hq:q+lo*sz=q'):cutA p lo sz cap=some ⟨b,q',none⟩:=by
  subst hp;subst hq
  simp[cutA,add_addr,show¬cap=lo by omega]
theorem y_slG (ho:o.op=.slice t x (some y) (some z) none) (hx:ev ρ x=some (.slice p len cap)) (hy:ev ρ y=some (.int k (lo:Nat))) (hz:ev ρ z=some (.int k' (hi:Nat))) (hP:sliceElem P t=some sz) (h:lo≤hi∧hi≤cap) (hp:p=none→cap=0):OpY P ρ o (.slice (cutA p lo sz cap) (hi-lo) (cap-lo)):=by
  intro ac ha w
  unfold sliceElem at hP
  cases hu:P.underlying t with
  |none=>simp[hu] at hP
  |some D=>
    cases D<;>simp[hu] at hP
    cases p with
    |none=>
      have h0:=hp rfl
      obtain rfl:lo=0:=Om
      obtain rfl:hi=0:=Om
      subst h0
      simp[execOp,ho,ev_ok ha hx,ev_ok ha hy,ev_ok ha hz,Instr.sliceAt,run_under hu,Instr.slice,Instr.sliceBounds,Instr.sliceBound,asIntOf,run_size hP,cutA]
    |some a=>simp[execOp,ho,ev_ok ha hx,ev_ok ha hy,ev_ok ha hz,Instr.sliceAt,run_under hu,Instr.slice,Instr.sliceBounds,Instr.sliceBound,asIntOf,run_size hP,h.1,h.2,cutA];split<;>rfl
def PA (p:Option Addr) (cap:Nat):Prop:=(∃b q:Nat,p=some ⟨b,q,none⟩)∨(p=none∧cap=0)
theorem PA.nilcap (h:PA p cap):p=none→cap=0:=fun e=>by
  rcases h with ⟨b,q,h⟩|⟨_,h⟩
  · rw[e] at h;cases h
  · exact h
theorem y_slGL (ho:o.op=.slice t x (some y) none none) (hx:ev ρ x=some (.slice p len cap)) (hy:ev ρ y=some (.int k (lo:Nat))) (hP:sliceElem P t=some sz) (h:lo≤len∧len≤cap) (hp:p=none→cap=0):OpY P ρ o (.slice (cutA p lo sz cap) (len-lo) (cap-lo)):=by
  intro ac ha w
  unfold sliceElem at hP
  cases hu:P.underlying t with
  |none=>simp[hu] at hP
  |some D=>
    cases D<;>simp[hu] at hP
    cases p with
    |none=>
      have h0:=hp rfl
      subst h0
      obtain rfl:len=0:=Om
      obtain rfl:lo=0:=Om
      simp[execOp,ho,ev_ok ha hx,ev_ok ha hy,Instr.sliceAt,run_under hu,Instr.slice,Instr.sliceBounds,Instr.sliceBound,asIntOf,run_size hP,cutA]
    |some a=>simp[execOp,ho,ev_ok ha hx,ev_ok ha hy,Instr.sliceAt,run_under hu,Instr.slice,Instr.sliceBounds,Instr.sliceBound,asIntOf,run_size hP,h.1,h.2,cutA];split<;>rfl
theorem nil_runS {bo:BinOp} {e:Nat} {ty ty':TypeId} (hb:bo=.eql∨bo=.neq) (ho:o.op=.binOp bo ty x (.const (.slice none 0 0)) ty') (hx:ev ρ x=some (.slice p len cap)) (hu:P.underlying ty=some (.slice e)):OpY P ρ o (.bool (if bo=.eql then p.isNone else !p.isNone)):=fun ac ha w=>by
  have h:∀w,(Op.equal ty (.slice p len cap) (.slice none 0 0)).run P w=.ok p.isNone w:=fun w=>by
    have:∀d,(Op.equalIn (d+1) ty (.slice p len cap) (.slice none 0 0)).run P w=.ok p.isNone w:=fun d=>by cases p<;>simp[Op.equalIn,run_under hu]
    exact this 9999
  have hg:(eqGuard bo ty x (.const (.slice none 0 0)) (.slice p len cap) (.slice none 0 0)).run P w=.ok () w:=by
    unfold eqGuard
    rcases hb with rfl|rfl<;>simp
  have hr:(binOp bo ty (.slice p len cap) (.slice none 0 0)).run P w=.ok (.bool (if bo=.eql then p.isNone else !p.isNone)) w:=by
    rcases hb with rfl|rfl<;>simp[binOp,h]
  have hcst:ac.eval (.const (.slice none 0 0))=.slice none 0 0:=rfl
  simp only[execOp,ho,ev_ok ha hx,hcst,Sem.run_bind,hg,hr,Result.andThen_ok,Sem.run_pure]
theorem y_eqSlNil {e:Nat} {ty ty':TypeId} (ho:o.op=.binOp .eql ty x (.const (.slice none 0 0)) ty') (hx:ev ρ x=some (.slice p len cap)) (hu:P.underlying ty=some (.slice e)):OpY P ρ o (.bool p.isNone):=nil_runS (.inl rfl) ho hx hu
end
theorem GS.pa {q:Option Addr} {b o sz cap:Nat} {cs:List Value} (h:GS q b o cs sz cap):PA q cap:=by
  rcases h.ad with h'|h'
  · exact .inl ⟨_,_,h'⟩
  · exact .inr h'
theorem PA.some {b q cap:Nat}:PA (some ⟨b,q,none⟩) cap:=.inl ⟨_,_,rfl⟩
theorem PA.cut {p:Option Addr} {lo sz cap:Nat} (h:PA p cap):PA (cutA p lo sz cap) (cap-lo):=by
  rcases h with ⟨b,q,rfl⟩|⟨rfl,h⟩
  · left
    simp only[cutA,Option.bind_some,add_addr]
    split
    · exact⟨_,_,rfl⟩
    · exact⟨_,_,rfl⟩
  · exact .inr ⟨rfl,Om⟩
def rows {α:Type} (f:α→List Value) (xs:List α):List Value:=xs.flatMap f
section
variable {α:Type} {f:α→List Value} {sz:Nat}
theorem rows_length (hf:∀x,(f x).length=sz):∀xs:List α,(rows f xs).length=xs.length*sz
  |[]=>by simp[rows]
  |x::xs=>by
    have:=rows_length hf xs
    simp only[rows,List.flatMap_cons,List.length_append,List.length_cons,hf,Nat.add_mul,Nat.one_mul] at this ⊢
    omega
theorem rows_append (xs ys:List α):rows f (xs++ys)=rows f xs++rows f ys:=by simp[rows]
theorem rows_drop (hf:∀x,(f x).length=sz):∀(xs:List α) (i:Nat),(rows f xs).drop (i*sz)=rows f (xs.drop i)
  |xs,0=>by simp
  |[],i+1=>by simp[rows]
  |x::xs,i+1=>by
    have:=rows_drop hf xs i
    simp only[rows,List.flatMap_cons,List.drop_succ_cons] at this ⊢
    rw[Nat.add_mul,Nat.one_mul,Nat.add_comm, ←List.drop_drop,List.drop_left' (hf x)]
    exact this
theorem rows_take (hf:∀x,(f x).length=sz):∀(xs:List α) (i:Nat),(rows f xs).take (i*sz)=rows f (xs.take i)
  |xs,0=>by simp[rows]
  |[],i+1=>by simp[rows]
  |x::xs,i+1=>by
    have:=rows_take hf xs i
    simp only[rows,List.flatMap_cons,List.take_succ_cons] at this ⊢
    rw[Nat.add_mul,Nat.one_mul,Nat.add_comm, ←hf x,List.take_length_add_append,hf x,this]
theorem rows_at (hf:∀x,(f x).length=sz) (d:α) {xs:List α} {i:Nat} (hi:i<xs.length):((rows f xs).drop (i*sz)).take sz=f (xs.getD i d):=by
  rw[rows_drop hf,List.drop_eq_getElem_cons hi]
  simp only[rows,List.flatMap_cons]
  rw[List.take_left' (hf _)]
  simp[hi]
theorem rows_get (hf:∀x,(f x).length=sz) (d:α) {xs:List α} {i e:Nat} (hi:i<xs.length) (he:e<sz):(rows f xs)[i*sz+e]? =(f (xs.getD i d))[e]? :=by
  rw[←rows_at hf d hi,List.getElem?_take,if_pos he,List.getElem?_drop]
theorem rows_set (hf:∀x,(f x).length=sz) {xs:List α} {i:Nat} (hi:i<xs.length) (y:α):spl (rows f xs) (i*sz) (f y)=rows f (xs.set i y):=by
  have hl:i*sz+sz≤xs.length*sz:=by rw[←Nat.succ_mul];exact Nat.mul_le_mul_right _ hi
  rw[spl_eq _ _ _ (by rw[hf,rows_length hf];exact hl),hf,rows_take hf,show i*sz+sz=(i+1)*sz by rw[Nat.succ_mul],rows_drop hf,List.set_eq_take_append_cons_drop,if_pos hi]
  simp[rows]
theorem rows_set1 (hf:∀x,(f x).length=sz) (d:α) {xs:List α} {i e:Nat} {v:Value} {y:α} (hi:i<xs.length) (he:e<sz) (h:(f (xs.getD i d)).set e v=f y):(rows f xs).set (i*sz+e) v=rows f (xs.set i y):=by
  have hl:i*sz+sz≤xs.length*sz:=by rw[←Nat.succ_mul];exact Nat.mul_le_mul_right _ hi
  rw[←rows_set hf hi y, ←h]
  rw[spl_eq _ _ _ (by rw[List.length_set,hf,rows_length hf];exact hl),List.length_set,hf]
  have h1:rows f xs=(rows f xs).take (i*sz)++(f (xs.getD i d)++(rows f xs).drop (i*sz+sz)):=by
    rw[←rows_at hf d hi, ←List.drop_drop,List.take_append_drop,List.take_append_drop]
  conv=>lhs;rw[h1]
  have ht:((rows f xs).take (i*sz)).length=i*sz:=by rw[List.length_take,rows_length hf];omega
  rw[List.set_append_right _ _ Om,ht,Nat.add_sub_cancel_left,List.set_append_left _ _ (by rw[hf];exact he),List.append_assoc]
end
def App (k:IntKind) (xs:List Nat) (n:Nat) (v:Value) (l':List Seg):Prop:=∃q b o cs cap,v=.slice q n cap∧GS q b o cs 1 cap∧n≤cap∧cs.take n=nats k xs∧xs.length=n∧l'=[⟨b,o,cs,none⟩]
theorem App.mk {k:IntKind} {xs P:List Nat} {n m:Nat} {q:Option Addr} {b o cap:Nat} {cs:List Value} (hg:GS q b o cs 1 cap) (hc:m≤cap) (hp:cs.take m=nats k P) (hl:P.length=m) (e1:m=n) (e2:P=xs):App k xs n (.slice q m cap) [⟨b,o,cs,none⟩]:=by
  subst e1;subst e2;exact⟨q,b,o,cs,cap,rfl,hg,hc,hp,hl,rfl⟩
def AppX (k:IntKind) (Φ:List Nat→Prop) (v:Value) (l':List Seg):Prop:=∃q b o cs cap xs n,v=.slice q n cap∧GS q b o cs 1 cap∧n≤cap∧cs.take n=nats k xs∧xs.length=n∧Φ xs∧l'=[⟨b,o,cs,none⟩]
theorem AppX.mk {k:IntKind} {Φ:List Nat→Prop} {P:List Nat} {m:Nat} {q:Option Addr} {b o cap:Nat} {cs:List Value} (hg:GS q b o cs 1 cap) (hc:m≤cap) (hp:cs.take m=nats k P) (hl:P.length=m) (h:Φ P):AppX k Φ (.slice q m cap) [⟨b,o,cs,none⟩]:=⟨q,b,o,cs,cap,P,m,rfl,hg,hc,hp,hl,h,rfl⟩
theorem AppX.whole {k:IntKind} {Φ:List Nat→Prop} {P:List Nat} {m b:Nat} (hl:P.length=m) (h:Φ P):AppX k Φ (.slice (some ⟨b,0,none⟩) m m) [⟨b,0,nats k P,none⟩]:=
  ⟨_,b,0,_,m,P,m,rfl,⟨by simp[hl],.inl rfl⟩,Nat.le_refl _,List.take_of_length_le (by simp[hl]),hl,h,rfl⟩
theorem AppX.nil {k:IntKind} {Φ:List Nat→Prop} (h:Φ []):AppX k Φ (.slice none 0 0) [⟨0,0,[],none⟩]:=⟨none,0,0,[],0,[],0,rfl,⟨rfl,.inr ⟨rfl,rfl⟩⟩,Nat.le_refl _,rfl,rfl,h,rfl⟩
def AppB (k:IntKind) (Φ:List Nat→Prop) (v:Value) (l':List Seg):Prop:=∃ok q b o cs cap xs n,v=.tuple #[.slice q n cap,.bool ok]∧GS q b o cs 1 cap∧n≤cap∧cs.take n=nats k xs∧xs.length=n∧(ok=true→Φ xs)∧l'=[⟨b,o,cs,none⟩]
theorem AppB.mk {k:IntKind} {Φ:List Nat→Prop} {P:List Nat} {m:Nat} {q:Option Addr} {b o cap:Nat} {cs:List Value} (hg:GS q b o cs 1 cap) (hc:m≤cap) (hp:cs.take m=nats k P) (hl:P.length=m) (h:Φ P):AppB k Φ (.tuple #[.slice q m cap,.bool true]) [⟨b,o,cs,none⟩]:=⟨true,q,b,o,cs,cap,P,m,rfl,hg,hc,hp,hl,fun _=>h,rfl⟩
theorem AppB.whole {k:IntKind} {Φ:List Nat→Prop} {P:List Nat} {m b:Nat} (hl:P.length=m) (h:Φ P):AppB k Φ (.tuple #[.slice (some ⟨b,0,none⟩) m m,.bool true]) [⟨b,0,nats k P,none⟩]:=
  ⟨true,_,b,0,_,m,P,m,rfl,⟨by simp[hl],.inl rfl⟩,Nat.le_refl _,List.take_of_length_le (by simp[hl]),hl,fun _=>h,rfl⟩
theorem AppB.no {k:IntKind} {Φ:List Nat→Prop}:AppB k Φ (.tuple #[.slice none 0 0,.bool false]) [⟨0,0,[],none⟩]:=⟨false,none,0,0,[],0,[],0,rfl,⟨rfl,.inr ⟨rfl,rfl⟩⟩,Nat.le_refl _,rfl,rfl,(fun h=>by cases h),rfl⟩
theorem GS.set {q:Option Addr} {b o sz cap:Nat} {cs:List Value} (h:GS q b o cs sz cap) (j:Nat) (v:Value):GS q b o (cs.set j v) sz cap:=⟨by rw[List.length_set];exact h.len,h.ad⟩
theorem pre_set {cs:List Value} {n j:Nat} {k:IntKind} {xs:List Nat} (h:cs.take n=nats k xs) (hj:j<n) (v:Nat):(cs.set j (.int k ((v:Nat):Int))).take n=nats k (xs.set j v):=by
  rw[List.take_set,h,nats_set]
def bls (xs:List Bool):List Value:=xs.map .bool
@[simp] theorem bls_length (xs:List Bool):(bls xs).length=xs.length:=by simp[bls]
theorem bls_get {xs:List Bool} {j:Nat} (h:j<xs.length):(bls xs)[j]? =some (.bool (xs.getD j false)):=by simp[bls,h]
theorem bls_set (xs:List Bool) (j:Nat) (v:Bool):(bls xs).set j (.bool v)=bls (xs.set j v):=by simp[bls,List.map_set]
theorem bls_rep (n:Nat) (v:Bool):List.replicate n (.bool v)=bls (List.replicate n v):=by simp[bls]
section
variable {P:Program} {K:Kx} {Q:Exit→Act→World→Prop} {ρ:Fram} {l r:List Seg} {o:Oper} {v:Value} {x y z:Operand} {t e n m:Nat} {k:IntKind}
theorem y_ixA {xs:List Bool} (ho:o.op=.index t x y) (hx:ev ρ x=some (.agg (bls xs).toArray)) (hy:ev ρ y=some (.int k (m:Nat))) (hu:P.underlying t=some (.array n e)) (hP:sizeB P e=some 1) (hb:P.underlying e=some .bool) (h:m<n∧m<xs.length):OpY P ρ o (.bool (xs.getD m false)):=fun ac ha w=>by
  have hl:(bls xs)[m]? =some (.bool (xs[m]?.getD false)):=by simpa using bls_get h.2
  have hagg:aggB P e=some false:=by simp[aggB,hb]
  simp[execOp,ho,ev_ok ha hx,ev_ok ha hy,Instr.index,asIntOf,run_under hu,h.1,run_size hP,part,run_isAgg hagg,hl,Sem.run_pure]
theorem e_callM {c:Call} {f:FuncId} {args:List Value} {lc rest rc:List Seg} {Post:Value→List Seg→Prop} {d:Nat} (is:List Nat) (con:Con P f args lc rc Post) (ho:o.op=.call c) (hf:c.callee=.value (.func f)) (hargs:evs ρ c.args.toList=some args)
    (hl:pickS is l=some (lc,rest)) (hrc:∀s ∈ rc,s ∈ rest++r) (hd:o.dst=some d) (hn:Nat.blt d K.n=true):
    Eff P K ρ l r o (fun ρ' l'=>∃v lc',Post v lc'∧ρ'=(d,v)::ρ∧l'=lc'++rest):=by
  intro a w ha nx Q hnx
  have hA:=ha.perm (pickS_perm _ _ _ _ hl)
  have hca:=con.run w (hA.st.sub_r hrc)
  have hargs':(c.args.map a.eval)=args.toArray:=by
    have:=evs_ok ha.fr _ _ hargs
    apply Array.toList_inj.1
    simpa using this
  have e:(execOp a.eval o).run P w=.ok (.enter f args.toArray) w:=by
    simp[execOp,ho,resolve,hf,hargs',Act.eval,Deferred.ofValue,invoke,run_callFunc con.can]
  unfold Oper.wp
  rw[e]
  simp only[Oper.upon]
  refine hca.mono fun e w' hE=>?_
  obtain⟨v,lc',rfl,hP,hk,hst,hown⟩:=hE.out
  simp only[hd]
  exact hnx _ _ ⟨(d,v)::ρ,lc'++rest,⟨v,lc',hP,rfl,rfl⟩,(hA.afterCall hrc hk hst hown).put hn v⟩
end
section
variable {P:Program} {ρ:Fram} {o:Oper} {x:Operand} {ty:TypeId} {a:Int}
theorem y_neg_i64 (ho:o.op=.unOp .neg ty x) (hx:ev ρ x=some (.int .i64 a)) (h: -9223372036854775808≤ -a∧ -a≤9223372036854775807):OpY P ρ o (.int .i64 (-a)):=(y_neg ho hx).cast (by rw[IntWalk.i64_in _ h])
end
theorem int_eq {k:IntKind} {a b:Int} (h:a=b):Value.int k a=Value.int k b:=by rw[h]
theorem bls_whole {xs:List Bool} {n:Nat} (h:xs.length=n):((bls xs).drop 0).take n=bls xs:=by rw[List.drop_zero];exact List.take_of_length_le (by simp[h])
theorem r_congr {P:Program} {ρ:Fram} {l r:List Seg} {o:Oper} {u v:Value} (h:OpR P ρ l r o u) (e:u=v):OpR P ρ l r o v:=e▸h
def f3 (c:Nat × Nat × Nat):List Value:=[.int .i64 ((c.1:Nat):Int),.int .i64 ((c.2.1:Nat):Int),.int .i64 ((c.2.2:Nat):Int)]
theorem f3_len (c:Nat × Nat × Nat):(f3 c).length=3:=rfl
theorem f3_one (c:Nat × Nat × Nat):((f3 c).all fun u=>u.oneCell')=true:=rfl
theorem preR_get {α:Type} {f:α→List Value} {sz n i:Nat} {cs:List Value} {xs:List α} (hf:∀x,(f x).length=sz) (d:α) (h:cs.take (n*sz)=rows f xs) (hl:xs.length=n) (hi:i<n):(cs.drop (i*sz)).take sz=f (xs.getD i d):=by
  rw[←rows_at hf d Om, ←h,List.drop_take,List.take_take]
  have:i*sz+sz≤n*sz:=by rw[←Nat.succ_mul];exact Nat.mul_le_mul_right _ hi
  rw[Nat.min_eq_left Om]
section
variable {P:Program} {K:Kx} {Q:Exit→Act→World→Prop} {ρ:Fram} {l r:List Seg} {o:Oper} {v:Value} {x y z:Operand} {t n m cap sz d:Nat}
theorem e_appR {α:Type} {f:α→List Value} {xs:List α} {y:α} {ca:Call} {q q2:Option Addr} {b o' c2 e by':Nat} {cs zs:List Value} {sh:Option (TypeId × Nat)} (hf:∀x,(f x).length=sz) (h1:∀x,((f x).all fun u=>u.oneCell')=true) (i:Nat) (ho:o.op=.call ca) (hc:ca.callee=.builtin .append) (hargs:evs ρ ca.args.toList=some [.slice q n cap,.slice q2 1 c2]) (hat:ca.argTypes= #[t,t]) (hP:sliceE P t=some (e,zs,sz,by')) (hz:zs.length=sz)
    (hs:nthS i l=some ⟨b,o',cs,sh⟩) (hg:GS q b o' cs sz cap) (hp:cs.take (n*sz)=rows f xs) (hsrc:Src l r q2 (f y)) (hn:n≤cap∧0<sz∧(n+1)*by'≤140737488355328∧n+1≤9223372036854775807) (hd:o.dst=some d) (hnd:Nat.blt d K.n=true):
    Eff P K ρ l r o (fun ρ' l'=>∃q' b' o' cs' cap',GS q' b' o' cs' sz cap'∧n+1≤cap'∧cs'.take ((n+1)*sz)=rows f (xs++[y])∧ρ'=(d,.slice q' (n+1) cap')::ρ∧l'=setS i ⟨b',o',cs',none⟩ l):=by
  intro a w ha nx Q hnx
  refine e_app (K:=K) i ho hc hargs hat hP hz hs hg hsrc ⟨hn.1,hn.2.1,hn.2.2.1,hn.2.2.2⟩ (by rw[hf,Nat.one_mul]) (h1 y) hd hnd a w ha nx Q fun a' w' ⟨ρ',l',⟨q',b',o'',cs',cap',h1,h2,h3,h4,h5⟩,h6⟩=>hnx a' w' ⟨ρ',l',⟨q',b',o'',cs',cap',h1,h2,?_,h4,h5⟩,h6⟩
  rw[h3,hp,rows_append];simp[rows]
end
def AppR (Φ:List (Nat × Nat × Nat)→Prop) (v:Value) (l':List Seg):Prop:=∃q b o cs cap xs n,v=.slice q n cap∧GS q b o cs 3 cap∧n≤cap∧cs.take (n*3)=rows f3 xs∧xs.length=n∧Φ xs∧l'=[⟨b,o,cs,none⟩]
theorem AppR.mk {Φ:List (Nat × Nat × Nat)→Prop} {P:List (Nat × Nat × Nat)} {m:Nat} {q:Option Addr} {b o cap:Nat} {cs:List Value} (hg:GS q b o cs 3 cap) (hc:m≤cap) (hp:cs.take (m*3)=rows f3 P) (hl:P.length=m) (h:Φ P):AppR Φ (.slice q m cap) [⟨b,o,cs,none⟩]:=⟨q,b,o,cs,cap,P,m,rfl,hg,hc,hp,hl,h,rfl⟩
theorem AppR.nil {Φ:List (Nat × Nat × Nat)→Prop} (h:Φ []):AppR Φ (.slice none 0 0) [⟨0,0,[],none⟩]:=⟨none,0,0,[],0,[],0,rfl,⟨rfl,.inr ⟨rfl,rfl⟩⟩,Nat.le_refl _,rfl,rfl,h,rfl⟩
def AppC (Φ:List Nat→Prop) (v:Value) (l':List Seg):Prop:=∃q b o cs cap xs n,v=.slice q n cap∧GS q b o cs 1 cap∧n≤cap∧cs.take n=nats .i64 xs∧xs.length=n∧(q=none∨Φ xs)∧l'=[⟨b,o,cs,none⟩]
theorem AppC.mk {Φ:List Nat→Prop} {P:List Nat} {m:Nat} {q:Option Addr} {b o cap:Nat} {cs:List Value} (hg:GS q b o cs 1 cap) (hc:m≤cap) (hp:cs.take m=nats .i64 P) (hl:P.length=m) (h:Φ P):AppC Φ (.slice q m cap) [⟨b,o,cs,none⟩]:=⟨q,b,o,cs,cap,P,m,rfl,hg,hc,hp,hl,.inr h,rfl⟩
theorem AppC.nil {Φ:List Nat→Prop}:AppC Φ (.slice none 0 0) [⟨0,0,[],none⟩]:=⟨none,0,0,[],0,[],0,rfl,⟨rfl,.inr ⟨rfl,rfl⟩⟩,Nat.le_refl _,rfl,rfl,.inl rfl,rfl⟩
theorem tailV_add (xs:List Nat) (k a:Nat):∀b,tailV xs k (a+b)=tailV xs k a+tailV xs (k+a) b*2^(8*a)
  |0=>by simp[tailV]
  |b+1=>by
    rw[←Nat.add_assoc]
    simp only[tailV,tailV_add xs k a b,Nat.add_mul,Nat.mul_add,Nat.pow_add,Nat.add_assoc]
    congr 2
    rw[Nat.mul_comm (2^(8*a)),Nat.mul_assoc]
theorem tailV_congr {xs ys:List Nat} {k k':Nat}:∀n,(∀i,i<n→xs.getD (k+i) 0=ys.getD (k'+i) 0)→tailV xs k n=tailV ys k' n
  |0,_=>rfl
  |n+1,h=>by
    simp only[tailV]
    rw[tailV_congr n (fun i hi=>h i Om),h n Om]
theorem getD_set' {xs:List Nat} {i j v:Nat} (h:i<xs.length):(xs.set i v).getD j 0=if i=j then v else xs.getD j 0:=by
  simp only[List.getD_eq_getElem?_getD,List.getElem?_set]
  split
  · rename_i e;subst e;simp[h]
  · rfl
theorem tailV_set {xs:List Nat} {j v:Nat} (hj:j<xs.length):∀n,j<n→tailV (xs.set j v) 0 n+xs.getD j 0*2^(8*j)=tailV xs 0 n+v*2^(8*j)
  |0,h=>by omega
  |n+1,h=>by
    simp only[tailV,Nat.zero_add]
    rw[getD_set' hj]
    by_cases e:j=n
    · subst e
      rw[if_pos rfl]
      have:tailV (xs.set j v) 0 j=tailV xs 0 j:=tailV_congr j fun i hi=>by rw[getD_set' hj,if_neg Om]
      omega
    · rw[if_neg e]
      have:=tailV_set (v:=v) hj n Om
      omega
theorem tailV_mod {xs:List Nat} (h:Bytes xs) (k:Nat) {m n:Nat} (hm:m≤n):tailV xs k n%2^(8*m)=tailV xs k m:=by
  obtain⟨d,rfl⟩:∃d,n=m+d:=⟨n-m,Om⟩
  rw[tailV_add,Nat.add_mul_mod_self_right,Nat.mod_eq_of_lt (tailV_lt h k m)]
theorem tailV_byte {xs:List Nat} (h:Bytes xs) {j n:Nat} (hj:j<n):tailV xs 0 n/2^(8*j)%256=xs.getD j 0:=by
  obtain⟨d,rfl⟩:∃d,n=(j+1)+d:=⟨n-(j+1),Om⟩
  have hx:=h.at_ j
  have ht:=tailV_lt h 0 j
  have p:0<2^(8*j):=Nat.pow_pos Om
  rw[tailV_add]
  simp only[tailV,Nat.zero_add]
  rw[show 8*(j+1)=8+8*j by omega,Nat.pow_add, ←Nat.mul_assoc,Nat.add_assoc, ←Nat.add_mul,Nat.add_mul_div_right _ _ p,Nat.div_eq_of_lt ht]
  rw[Nat.zero_add,show(2:Nat)^8=256 from rfl,Nat.add_mul_mod_self_right,Nat.mod_eq_of_lt hx]
theorem Pos.start {xs:List Nat} {k len t:Nat} (hb:Bytes xs) (ht:4≤t) (hl:1≤len):Pos xs k len (BR.start t xs k len) (8*len) (tailV xs k len)∧((BR.start t xs k len).rd≤32∨(BR.start t xs k len).off=0):=by
  unfold BR.start
  split
  · rename_i h8
    refine⟨⟨⟨Oi,le64_lt hb _,Oi⟩,Oi,Oz,le64 xs (k+(len-8)),Oi,by simpa using le64_lt hb _,?_⟩,.inl Oi⟩
    show tailV xs k len=le64 xs (k+(len-8))*2^(8*(len-8))+tailV xs k (len-8)
    rw[le64_sum hb]
    have:=tailV_add xs k (len-8) 8
    rw[show len-8+8=len by omega] at this
    omega
  · rename_i h8
    have h0:Pos xs k len ⟨len,0,64⟩ (8*len) (tailV xs k len):=⟨⟨Nat.le_refl _,Oi,Oi⟩,Oi,Oi,0,Oi,Oi,Oi⟩
    obtain⟨h1,h1'⟩:=h0.fill (t:=t) hb ht (fun _ _=>Oz)
    have hs:=BR.fill_start (t:=t) (xs:=xs) (k:=k) ht (show len<8 by omega)
    exact h1.fill hb ht (fun _ _=>hs)
theorem Pos.init {xs:List Nat} {k len t:Nat} (hb:Bytes xs) (ht:4≤t) (hl:1≤len) (h0:0<xs.getD (k+(len-1)) 0):
    Pos xs k len (BR.init t xs k len) (8*(len-1)+(blen (xs.getD (k+(len-1)) 0)-1)) (tailV xs k len%2^(8*(len-1)+(blen (xs.getD (k+(len-1)) 0)-1))):=by
  obtain⟨h,hr⟩:=Pos.start (t:=t) (k:=k) hb ht hl
  have hx:=hb.at_ (k+(len-1))
  have h8:blen (xs.getD (k+(len-1)) 0)≤8:=blen_le Om
  have h1:=blen_pos h0
  have hrd:(BR.start t xs k len).rd+(8-(blen (xs.getD (k+(len-1)) 0)-1))≤64:=by
    rcases hr with hr|hr
    · omega
    · have:=h.n;rw[hr] at this;omega
  have:=h.adv hb (m:=8-(blen (xs.getD (k+(len-1)) 0)-1)) Om hrd
  rw[show 8*len-(8-(blen (xs.getD (k+(len-1)) 0)-1))=8*(len-1)+(blen (xs.getD (k+(len-1)) 0)-1) by omega] at this
  exact this
theorem blen_mark {n r:Nat} (h:r<2^n):blen (2^n+r)=n+1:=by
  have h1:=blen_le (n:=2^n+r) (k:=n+1) (by rw[Nat.pow_succ];omega)
  have h2:=blen_lt (2^n+r)
  rcases Nat.lt_or_ge n (blen (2^n+r)) with h|h
  · omega
  · have:=Nat.pow_le_pow_right (n:=2) Om h
    omega
theorem Pos.ofPacked {xs:List Nat} {k len t n R:Nat} (hb:Bytes xs) (ht:4≤t) (hl:len=n/8+1) (hR:R<2^n) (hv:tailV xs k len=2^n+R):
    Pos xs k len (BR.init t xs k len) n R∧0<xs.getD (k+(len-1)) 0:=by
  subst hl
  simp only[tailV] at hv
  rw[Nat.add_sub_cancel]
  have htl:=tailV_lt hb k (n/8)
  generalize hx:xs.getD (k+n/8) 0=x at hv
  have hp:0<2^(8*(n/8)):=Nat.pow_pos Om
  have e:(2:Nat)^n=2^(n%8)*2^(8*(n/8)):=by rw[←Nat.pow_add];congr 1;omega
  have hx2:x=2^(n%8)+R/2^(8*(n/8)):=by
    have h1:x=(tailV xs k (n/8)+x*2^(8*(n/8)))/2^(8*(n/8)):=by rw[Nat.add_mul_div_right _ _ hp,Nat.div_eq_of_lt htl,Nat.zero_add]
    rw[h1,hv,e,Nat.add_comm,Nat.add_mul_div_right _ _ hp,Nat.add_comm]
  have hr8:R/2^(8*(n/8))<2^(n%8):=by rw[Nat.div_lt_iff_lt_mul hp, ←e];exact hR
  have hbl:blen x=n%8+1:=by rw[hx2];exact blen_mark hr8
  have hpos:0<x:=by rw[hx2];exact Nat.lt_of_lt_of_le (Nat.pow_pos Om) (Nat.le_add_right _ _)
  have h:=Pos.init (t:=t) (k:=k) (len:=n/8+1) hb ht Om (by rw[Nat.add_sub_cancel,hx];exact hpos)
  rw[Nat.add_sub_cancel,hx,hbl,show 8*(n/8)+(n%8+1-1)=n by omega] at h
  have hm:tailV xs k (n/8+1)%2^n=R:=by
    simp only[tailV]
    rw[hx,hv,Nat.add_comm,Nat.add_mod_right,Nat.mod_eq_of_lt hR]
  rw[hm] at h
  exact⟨h,hpos⟩
def bitsV:List Nat→Nat
  |[]=>0
  |b::bs=>b*2^bs.length+bitsV bs
def Bits (bs:List Nat):Prop:=∀b ∈ bs,b<2
theorem bitsV_append:∀as bs:List Nat,bitsV (as++bs)=bitsV as*2^bs.length+bitsV bs
  |[],bs=>by simp[bitsV]
  |a::as,bs=>by
    simp only[List.cons_append,bitsV,bitsV_append as bs,List.length_append,Nat.add_mul,Nat.pow_add]
    rw[Nat.mul_assoc];omega
theorem Bits.append {as bs:List Nat} (h:Bits as) (k:Bits bs):Bits (as++bs):=fun x hx=>by
  rcases List.mem_append.1 hx with h'|h'
  · exact h x h'
  · exact k x h'
theorem or_bit {b x p:Nat} (hx:x<2) (hz:b%2^(p+1)=0):b|||x*2^p=b+x*2^p:=by
  have hb:b=b/2^(p+1)*2^(p+1):=by
    have:=Nat.div_add_mod b (2^(p+1));rw[hz,Nat.add_zero,Nat.mul_comm] at this;exact this.symm
  have hlt:x*2^p<2^(p+1):=by
    have:x*2^p≤1*2^p:=Nat.mul_le_mul_right _ Om
    have:=Nat.pow_pos (n:=p) (show 0<2 by omega)
    rw[Nat.pow_succ];omega
  rw[hb,or_shift hlt]
theorem low_zero {out:List Nat} (hb:Bytes out) {n at_:Nat} (hn:at_/8<n) (hz:tailV out 0 n%2^(at_+1)=0):out.getD (at_/8) 0%2^(at_%8+1)=0:=by
  rw[←tailV_byte hb hn]
  have h1:tailV out 0 n=tailV out 0 n/2^(at_+1)*2^(at_+1):=by
    have:=Nat.div_add_mod (tailV out 0 n) (2^(at_+1));rw[hz,Nat.add_zero,Nat.mul_comm] at this;exact this.symm
  have p:0<2^(8*(at_/8)):=Nat.pow_pos Om
  rw[h1,show at_+1=(at_%8+1)+8*(at_/8) by omega,Nat.pow_add, ←Nat.mul_assoc,Nat.mul_div_cancel _ p]
  rw[show(256:Nat)=2^(at_%8+1)*2^(7-at_%8) by rw[←Nat.pow_add,show at_%8+1+(7-at_%8)=8 by omega]]
  rw[Nat.mod_mul_right_mod,Nat.mul_mod_left]
theorem put_bit {out:List Nat} (hb:Bytes out) {n at_ x:Nat} (hl:out.length=n) (hn:at_/8<n) (hx:x<2) (hz:tailV out 0 n%2^(at_+1)=0):
    tailV (out.set (at_/8) (out.getD (at_/8) 0|||x*2^(at_%8))) 0 n=tailV out 0 n+x*2^at_∧Bytes (out.set (at_/8) (out.getD (at_/8) 0|||x*2^(at_%8)))∧out.getD (at_/8) 0|||x*2^(at_%8)<256:=by
  have hz':=low_zero hb hn hz
  have ho:=or_bit hx hz'
  have h8:x*2^(at_%8)<256:=by
    have h1:x*2^(at_%8)≤1*2^(at_%8):=Nat.mul_le_mul_right _ Om
    have h2:(2:Nat)^(at_%8)≤2^7:=Nat.pow_le_pow_right Om Om
    omega
  have hlt:=or_lt8 (hb.at_ (at_/8)) h8
  refine⟨?_,?_,hlt⟩
  · have:=tailV_set (xs:=out) (v:=out.getD (at_/8) 0|||x*2^(at_%8)) (j:=at_/8) Om n hn
    rw[ho,Nat.add_mul,Nat.mul_assoc, ←Nat.pow_add,show at_%8+8*(at_/8)=at_ by omega] at this
    rw[ho];omega
  · intro y hy
    rcases List.mem_or_eq_of_mem_set hy with h|h
    · exact hb y h
    · subst h;exact hlt
def BR.fload4 (xs:List Nat) (k:Nat) (s:BR):BR:=⟨s.off-4,s.val*2^32%18446744073709551616|||le32 xs (k+(s.off-4)),s.rd-32⟩
def BR.ffast (xs:List Nat) (k:Nat) (s:BR):BR:=if s.rd<32 then s else s.fload4 xs k
def BR.fload1 (xs:List Nat) (k:Nat) (s:BR):BR:=⟨s.off-1,s.val*2^8%18446744073709551616|||xs.getD (k+(s.off-1)) 0,s.rd-8⟩
def BR.floads (xs:List Nat) (k:Nat):Nat→BR→BR
  |0,s=>s
  |n+1,s=>(BR.floads xs k n s).fload1 xs k
def BR.ffill (xs:List Nat) (k:Nat) (s:BR):BR:=if s.rd<32 then s else if 4<s.off then s.fload4 xs k else BR.floads xs k s.off s
def BR.fstart (xs:List Nat) (k len:Nat):BR:=if 8≤len then ⟨len-8,le64 xs (k+(len-8)),0⟩ else BR.ffill xs k (BR.ffill xs k ⟨len,0,64⟩)
def BR.finit (xs:List Nat) (k len:Nat):BR:=⟨(BR.fstart xs k len).off,(BR.fstart xs k len).val,((BR.fstart xs k len).rd+(8-(blen (xs.getD (k+(len-1)) 0)-1)))%256⟩
def BR.fbits (s:BR) (n:Nat):Nat:=s.val*2^(s.rd&&&63)%18446744073709551616/2^((64-n)&&&63)%65536
def BR.fskip (s:BR) (n:Nat):BR:=⟨s.off,s.val,(s.rd+n)%256⟩
structure PosF (xs:List Nat) (k len:Nat) (s:BR) (n R:Nat):Prop where
  ok:s.OK len
  rd:s.rd≤64
  n:n=8*s.off+(64-s.rd)
  R:R=s.val%2^(64-s.rd)*2^(8*s.off)+tailV xs k s.off
section
variable {xs:List Nat} {k len n R:Nat} {s:BR}
theorem PosF.lt (h:PosF xs k len s n R) (hb:Bytes xs):R<2^n:=by
  have ht:=tailV_lt hb k s.off
  have h1:=Nat.mod_lt s.val (Nat.pow_pos (n:=64-s.rd) (show 0<2 by omega))
  have h2:s.val%2^(64-s.rd)*2^(8*s.off)≤(2^(64-s.rd)-1)*2^(8*s.off):=Nat.mul_le_mul_right _ Om
  rw[Nat.sub_mul,Nat.one_mul, ←Nat.pow_add] at h2
  have h3:2^(8*s.off)≤2^(64-s.rd+8*s.off):=Nat.pow_le_pow_right Om Om
  rw[h.R,h.n,Nat.add_comm (8*s.off)]
  omega
theorem shl_or {v x e r:Nat} (hx:x<2^e) (he:e≤r) (hr:r≤64):(v*2^e%18446744073709551616|||x)%2^(64-(r-e))=v%2^(64-r)*2^e+x:=by
  have h64:(18446744073709551616:Nat)=2^(64-e)*2^e:=by rw[←Nat.pow_add,show 64-e+e=64 by omega]
  rw[h64,Nat.mul_mod_mul_right,or_shift hx,show 64-(r-e)=(64-r)+e by omega,Nat.pow_add]
  have hd:2^(64-r)∣2^(64-e):=Nat.pow_dvd_pow 2 Om
  rw[Nat.add_mod,Nat.mul_mod_mul_right,Nat.mod_mod_of_dvd _ hd]
  have hx2:x%(2^(64-r)*2^e)=x:=Nat.mod_eq_of_lt (Nat.lt_of_lt_of_le hx (Nat.le_mul_of_pos_left _ (Nat.pow_pos Om)))
  rw[hx2]
  refine Nat.mod_eq_of_lt ?_
  have h1:=Nat.mod_lt v (Nat.pow_pos (n:=64-r) (show 0<2 by omega))
  have h2:v%2^(64-r)*2^e≤(2^(64-r)-1)*2^e:=Nat.mul_le_mul_right _ Om
  rw[Nat.sub_mul,Nat.one_mul] at h2
  have h3:2^e≤2^(64-r)*2^e:=Nat.le_mul_of_pos_left _ (Nat.pow_pos Om)
  omega
theorem PosF.load1 (h:PosF xs k len s n R) (hb:Bytes xs) (hr:8≤s.rd) (ho:0<s.off):PosF xs k len (s.fload1 xs k) n R:=by
  have hx:=hb.at_ (k+(s.off-1))
  have hrd:=h.rd
  have hoff:=h.ok.off
  refine⟨⟨by show s.off-1≤len;omega,or_lt64 (Nat.mod_lt _ Od) Om,by show s.rd-8<256;omega⟩,by show s.rd-8≤64;omega,by rw[h.n];show _=8*(s.off-1)+(64-(s.rd-8));omega,?_⟩
  show R=(s.val*2^8%18446744073709551616|||xs.getD (k+(s.off-1)) 0)%2^(64-(s.rd-8))*2^(8*(s.off-1))+tailV xs k (s.off-1)
  rw[shl_or (e:=8) Om hr hrd,h.R,tailV_succ ho,Nat.add_mul,Nat.mul_assoc, ←Nat.pow_add,show 8+8*(s.off-1)=8*s.off by omega]
  omega
theorem BR.floads_off:∀n,(BR.floads xs k n s).off=s.off-n
  |0=>rfl
  |n+1=>by simp[BR.floads,BR.fload1,BR.floads_off n];omega
theorem BR.floads_rd:∀n,(BR.floads xs k n s).rd=s.rd-8*n
  |0=>rfl
  |n+1=>by simp[BR.floads,BR.fload1,BR.floads_rd n];omega
theorem PosF.loads (h:PosF xs k len s n R) (hb:Bytes xs):∀m,8*m≤s.rd→m≤s.off→PosF xs k len (BR.floads xs k m s) n R
  |0,_,_=>h
  |m+1,h1,h2=>by
    have ih:=PosF.loads h hb m Om Om
    exact ih.load1 hb (by rw[BR.floads_rd];omega) (by rw[BR.floads_off];omega)
theorem PosF.load4 (h:PosF xs k len s n R) (hb:Bytes xs) (hr:32≤s.rd) (ho:4≤s.off):PosF xs k len (s.fload4 xs k) n R:=by
  have hx:=le32_lt hb (k+(s.off-4))
  have hrd:=h.rd
  have hoff:=h.ok.off
  refine⟨⟨by show s.off-4≤len;omega,or_lt64 (Nat.mod_lt _ Od) Om,by show s.rd-32<256;omega⟩,by show s.rd-32≤64;omega,by rw[h.n];show _=8*(s.off-4)+(64-(s.rd-32));omega,?_⟩
  show R=(s.val*2^32%18446744073709551616|||le32 xs (k+(s.off-4)))%2^(64-(s.rd-32))*2^(8*(s.off-4))+tailV xs k (s.off-4)
  have ht:tailV xs k s.off=tailV xs k (s.off-4)+le32 xs (k+(s.off-4))*2^(8*(s.off-4)):=by
    have:=tailV_add xs k (s.off-4) 4
    rw[show s.off-4+4=s.off by omega] at this
    rw[this,le32_sum hb]
    simp only[tailV,Nat.add_zero]
    congr 2;omega
  rw[shl_or (e:=32) Om hr hrd,h.R,ht,Nat.add_mul,Nat.mul_assoc, ←Nat.pow_add,show 32+8*(s.off-4)=8*s.off by omega]
  omega
theorem PosF.ffast (h:PosF xs k len s n R) (hb:Bytes xs) (ho:32≤s.rd→4≤s.off):PosF xs k len (s.ffast xs k) n R∧(s.ffast xs k).rd≤32∧s.off≤(s.ffast xs k).off+4∧(s.ffast xs k).off≤s.off:=by
  unfold BR.ffast
  split
  · exact⟨h,Om,Om,Om⟩
  · exact⟨h.load4 hb Om (ho Om),by have:=h.rd;simp[BR.fload4];omega,by simp[BR.fload4];omega,by simp[BR.fload4]⟩
theorem PosF.ffill (h:PosF xs k len s n R) (hb:Bytes xs) (h8:32≤s.rd→s.off<5→8*s.off≤s.rd):PosF xs k len (BR.ffill xs k s) n R∧((BR.ffill xs k s).rd≤32∨(BR.ffill xs k s).off=0)∧(BR.ffill xs k s).off≤s.off:=by
  unfold BR.ffill
  split
  · exact⟨h,Om,Om⟩
  · split
    · exact⟨h.load4 hb Om Om,by have:=h.rd;simp[BR.fload4];omega,by simp[BR.fload4]⟩
    · exact⟨h.loads hb _ (h8 Om Om) (Nat.le_refl _),.inr (by rw[BR.floads_off];omega),by rw[BR.floads_off];omega⟩
theorem PosF.skip {m:Nat} (h:PosF xs k len s n R) (hb:Bytes xs) (hr:s.rd+m≤64):PosF xs k len (s.fskip m) (n-m) (R%2^(n-m)):=by
  have hrd:(s.fskip m).rd=s.rd+m:=by simp[BR.fskip];omega
  refine⟨⟨h.ok.off,h.ok.val,by rw[hrd];omega⟩,Om,by rw[h.n,hrd];show _=8*s.off+_;omega,?_⟩
  rw[hrd]
  show R%2^(n-m)=s.val%2^(64-(s.rd+m))*2^(8*s.off)+tailV xs k s.off
  have hn:n-m=(64-s.rd-m)+8*s.off:=by rw[h.n];omega
  have ht:=tailV_lt hb k s.off
  rw[h.R,hn,Nat.pow_add]
  have e1:s.val%2^(64-s.rd)*2^(8*s.off)+tailV xs k s.off=2^(8*s.off)*(s.val%2^(64-s.rd))+tailV xs k s.off:=by rw[Nat.mul_comm]
  rw[e1,Nat.mul_comm (2^(64-s.rd-m)),Nat.mod_mul,Nat.mul_add_mod,Nat.mod_eq_of_lt ht,Nat.mul_add_div (Nat.pow_pos Om),Nat.div_eq_of_lt ht,Nat.add_zero]
  rw[Nat.mod_mod_of_dvd _ (Nat.pow_dvd_pow 2 Om),show 64-s.rd-m=64-(s.rd+m) by omega,Nat.mul_comm,Nat.add_comm]
theorem PosF.bits {m:Nat} (h:PosF xs k len s n R) (hb:Bytes xs) (hm:1≤m) (hm16:m≤16) (hr:s.rd+m≤64):s.fbits m=R/2^(n-m)∧s.fbits m<2^m:=by
  have ht:=tailV_lt hb k s.off
  have pos:∀m:Nat,0<2^m:=fun m=>Nat.pow_pos Om
  have e1:s.rd&&&63=s.rd:=by rw[show(63:Nat)=2^6-1 from rfl,Nat.and_two_pow_sub_one_eq_mod];exact Nat.mod_eq_of_lt Om
  have e2:(64-m)&&&63=64-m:=by rw[show(63:Nat)=2^6-1 from rfl,Nat.and_two_pow_sub_one_eq_mod];exact Nat.mod_eq_of_lt Om
  have h64:(18446744073709551616:Nat)=2^(64-s.rd)*2^s.rd:=by rw[←Nat.pow_add,show 64-s.rd+s.rd=64 by omega]
  have key:s.val*2^(s.rd&&&63)%18446744073709551616/2^((64-m)&&&63)=R/2^(n-m):=by
    rw[e1,e2,h64,Nat.mul_mod_mul_right,show 64-m=(64-m-s.rd)+s.rd by omega,Nat.pow_add,Nat.mul_div_mul_right _ _ (pos _)]
    rw[h.R,show n-m=8*s.off+(64-m-s.rd) by rw[h.n];omega,Nat.pow_add, ←Nat.div_div_eq_div_mul,Nat.add_comm,Nat.add_mul_div_right _ _ (pos _),Nat.div_eq_of_lt ht,Nat.zero_add]
  have hlt:R/2^(n-m)<2^m:=by
    rw[Nat.div_lt_iff_lt_mul (pos _), ←Nat.pow_add,show m+(n-m)=n by rw[h.n];omega]
    exact h.lt hb
  have h16:(2:Nat)^m≤2^16:=Nat.pow_le_pow_right Om hm16
  unfold BR.fbits
  rw[key,Nat.mod_eq_of_lt Om]
  exact⟨rfl,hlt⟩
theorem BR.ffill_start (hl:len<8):8*(BR.ffill xs k ⟨len,0,64⟩).off≤(BR.ffill xs k ⟨len,0,64⟩).rd:=by
  unfold BR.ffill
  rw[if_neg Oi]
  split
  · simp[BR.fload4];omega
  · rw[BR.floads_off,BR.floads_rd];simp
theorem PosF.start (hb:Bytes xs) (hl:1≤len):PosF xs k len (BR.fstart xs k len) (8*len) (tailV xs k len)∧((BR.fstart xs k len).rd≤32∨(BR.fstart xs k len).off=0):=by
  unfold BR.fstart
  split
  · rename_i h8
    refine⟨⟨⟨Oi,le64_lt hb _,Oi⟩,Oi,Oz,?_⟩,.inl Oi⟩
    show tailV xs k len=le64 xs (k+(len-8))%2^64*2^(8*(len-8))+tailV xs k (len-8)
    rw[Nat.mod_eq_of_lt (le64_lt hb _),le64_sum hb]
    have:=tailV_add xs k (len-8) 8
    rw[show len-8+8=len by omega] at this
    omega
  · rename_i h8
    have h0:PosF xs k len ⟨len,0,64⟩ (8*len) (tailV xs k len):=⟨⟨Nat.le_refl _,Oi,Oi⟩,Oi,Oi,Oi⟩
    obtain⟨h1,h1'⟩:=h0.ffill hb (fun _ _=>Oz)
    have hs:=BR.ffill_start (xs:=xs) (k:=k) (show len<8 by omega)
    obtain⟨h2,h3,_⟩:=h1.ffill hb (fun _ _=>hs)
    exact⟨h2,h3⟩
theorem PosF.ofPacked {n R:Nat} (hb:Bytes xs) (hl:len=n/8+1) (hR:R<2^n) (hv:tailV xs k len=2^n+R):
    PosF xs k len (BR.finit xs k len) n R∧0<xs.getD (k+(len-1)) 0∧(BR.finit xs k len).rd≤40∨PosF xs k len (BR.finit xs k len) n R∧0<xs.getD (k+(len-1)) 0∧(BR.finit xs k len).off=0:=by
  subst hl
  obtain⟨hS,hr⟩:=PosF.start (k:=k) (len:=n/8+1) hb Om
  simp only[tailV] at hv
  unfold BR.finit
  rw[Nat.add_sub_cancel]
  have htl:=tailV_lt hb k (n/8)
  have hm:tailV xs k (n/8+1)%2^n=R:=by
    simp only[tailV]
    rw[hv,Nat.add_comm,Nat.add_mod_right,Nat.mod_eq_of_lt hR]
  generalize hx:xs.getD (k+n/8) 0=x at hv
  have hp:0<2^(8*(n/8)):=Nat.pow_pos Om
  have e:(2:Nat)^n=2^(n%8)*2^(8*(n/8)):=by rw[←Nat.pow_add];congr 1;omega
  have hx2:x=2^(n%8)+R/2^(8*(n/8)):=by
    have h1:x=(tailV xs k (n/8)+x*2^(8*(n/8)))/2^(8*(n/8)):=by rw[Nat.add_mul_div_right _ _ hp,Nat.div_eq_of_lt htl,Nat.zero_add]
    rw[h1,hv,e,Nat.add_comm,Nat.add_mul_div_right _ _ hp,Nat.add_comm]
  have hr8:R/2^(8*(n/8))<2^(n%8):=by rw[Nat.div_lt_iff_lt_mul hp, ←e];exact hR
  have hbl:blen x=n%8+1:=by rw[hx2];exact blen_mark hr8
  have hpos:0<x:=by rw[hx2];exact Nat.lt_of_lt_of_le (Nat.pow_pos Om) (Nat.le_add_right _ _)
  rw[hbl]
  have hrd:(BR.fstart xs k (n/8+1)).rd+(8-(n%8+1-1))≤64:=by
    rcases hr with hr|hr
    · omega
    · have:=hS.n;rw[hr] at this;omega
  have hk:=hS.skip hb hrd
  rw[show 8*(n/8+1)-(8-(n%8+1-1))=n by omega,hm] at hk
  rcases hr with hr|hr
  · exact .inl ⟨hk,hpos,by show _%256≤40;omega⟩
  · exact .inr ⟨hk,hpos,hr⟩
end
end Go.Proofs.YtplgbfkpeampgaaGreatDoor
