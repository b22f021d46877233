/- The walk's own engine and plain laws of numbers, bits and codes, part 1. -/
import Derived.Test.YtaphmhiddngdoaaGreatDoorP0
import Derived.Still
set_option linter.unusedVariables false
set_option linter.unusedSimpArgs false
namespace Go.Proofs.YtaphmhiddngdoaaGreatDoor
def flatC:Nat→List Nat→List Nat
  |_,[]=>[]
  |s,n::cs=>List.replicate n s++flatC (s+1) cs
def fq (size:Nat):Nat:=size/2+size/8+3
def place (size:Nat):List Nat→Nat→List Nat→List Nat
  |[],_,cells=>cells
  |s::t,p,cells=>place size t ((p+fq size)%size) (cells.set p s)
abbrev Cell:=Nat × Nat × Nat
def BD (log s k:Nat):Cell:=(s,log-(aj k-1),k*2^(log-(aj k-1))-2^log)
def buildD (log:Nat):List Nat→List Nat→List Cell
  |[],_=>[]
  |s::t,nx=>BD log s (nx.getD s 0)::buildD log t (nx.set s (nx.getD s 0+1))
theorem qL (log:Nat):∀(t nx:List Nat),(buildD log t nx).length=t.length
  |[],_=>rfl
  |s::t,nx=>by simp[buildD,qL log t]
theorem ui:∀(cs:List Nat) (s:Nat),(flatC s cs).length=cs.sum
  |[],_=>rfl
  |n::cs,s=>by simp[flatC,ui cs]
theorem ph:∀(cs:List Nat) (s x:Nat),(flatC s cs).count x=if s≤x then cs.getD (x-s) 0 else 0
  |[],s,x=>by simp[flatC]
  |n::cs,s,x=>by
    have hc:(List.replicate n s).count x=if s=x then n else 0:=by rw[List.count_replicate];by_cases e:s=x<;>simp[e]
    rw[flatC,List.count_append,hc,ph cs (s+1) x];rcases Nat.lt_trichotomy s x with h|h|h
    · rw[if_neg (show¬s=x by omega),if_pos (show s+1≤x by omega),if_pos (show s≤x by omega),show x-s=(x-(s+1))+1 by omega,List.getD_cons_succ,Nat.zero_add]
    · subst h;rw[if_pos rfl,if_neg (show¬s+1≤s by omega),if_pos (Nat.le_refl _),Nat.sub_self];rfl
    · rw[if_neg (show¬s=x by omega),if_neg (show¬s+1≤x by omega),if_neg (show¬s≤x by omega)]
theorem rr (log:Nat):∀(t nx:List Nat) (u:Nat),u<t.length→(∀s ∈ t,s<nx.length)→(buildD log t nx).getD u (0,0,0)=BD log (t.getD u 0) (nx.getD (t.getD u 0) 0+(t.take u).count (t.getD u 0))
  |[],nx,u,h,_=>by simp at h
  |s::t,nx,0,h,hs=>by simp[buildD]
  |s::t,nx,u+1,h,hs=>by
    have hu:u<t.length:=by simpa using h
    simp only[buildD,List.getD_cons_succ,List.take_succ_cons];rw[rr log t _ u hu (fun x hx=>by simp;exact hs x (List.mem_cons_of_mem _ hx))];rw[aH (hs s List.mem_cons_self),List.count_cons];by_cases e:s=t.getD u 0
    · rw[if_pos e,if_pos (by simpa using e),e];congr 1;omega
    · rw[if_neg e,if_neg (by simpa using e),Nat.add_zero]
theorem JY {log k n:Nat} (h1:1≤k) (h:k+1≤2*n) (hn:2*n<2^log):1≤log-(aj k-1):=by
  have:=cW (n:=k) (k:=log) Om;have:=dk (show 0<k by omega);omega
def fN (T:List Cell):List Nat→Nat
  |a::b::c::r=>(T.getD a (0,0,0)).2.1+fN T (b::c::r)
  |_=>0
def fR (T:List Cell):List Nat→Nat
  |a::b::c::r=>(c-(T.getD a (0,0,0)).2.2)*2^fN T (b::c::r)+fR T (b::c::r)
  |_=>0
structure ju (log:Nat) (T:List Cell) (text at_:List Nat):Prop where
  len:at_.length=text.length
  two:2≤text.length
  lt:∀a ∈ at_,a<2^log
  sym:∀i,i<text.length→(T.getD (at_.getD i 0) (0,0,0)).1=text.getD i 0
  step:∀i,i+2<text.length→(T.getD (at_.getD i 0) (0,0,0)).2.2≤at_.getD (i+2) 0∧at_.getD (i+2) 0<(T.getD (at_.getD i 0) (0,0,0)).2.2+2^(T.getD (at_.getD i 0) (0,0,0)).2.1
theorem qa {T:List Cell} {at_:List Nat} {i:Nat} (h:i+2<at_.length):fN T (at_.drop i)=(T.getD (at_.getD i 0) (0,0,0)).2.1+fN T (at_.drop (i+1))∧
    fR T (at_.drop i)=(at_.getD (i+2) 0-(T.getD (at_.getD i 0) (0,0,0)).2.2)*2^fN T (at_.drop (i+1))+fR T (at_.drop (i+1)):=by
  rw[List.drop_eq_getElem_cons (show i<at_.length by omega),List.drop_eq_getElem_cons (show i+1<at_.length by omega),List.drop_eq_getElem_cons (show i+1+1<at_.length by omega)];simp only[fN,fR];simp[List.getD_eq_getElem?_getD,show i<at_.length by omega,h]
theorem pj {T:List Cell} {at_:List Nat} {i:Nat} (h:at_.length≤i+2):fN T (at_.drop i)=0∧fR T (at_.drop i)=0:=by
  have:(at_.drop i).length≤2:=by simp;omega
  match hl:at_.drop i,this with
  |[],_=>exact⟨rfl,rfl⟩
  |[a],_=>exact⟨rfl,rfl⟩
  |[a,b],_=>exact⟨rfl,rfl⟩
  |a::b::c::r,h'=>simp at h'
theorem ju.UO {log:Nat} {T:List Cell} {text at_:List Nat} (h:ju log T text at_):∀d i,at_.length-i=d→fR T (at_.drop i)<2^fN T (at_.drop i)
  |0,i,hd=>by have:=pj (T:=T) (at_:=at_) (i:=i) Om;rw[this.1,this.2];decide
  |d+1,i,hd=>by
    rcases Nat.lt_or_ge (i+2) at_.length with hi|hi
    · obtain⟨e1,e2⟩:=qa (T:=T) hi;have ih:=ju.UO h d (i+1) Om;have hs:=h.step i (by rw[←h.len];exact hi);rw[e1,e2,Nat.pow_add];have:(at_.getD (i+2) 0-(T.getD (at_.getD i 0) (0,0,0)).2.2)*2^fN T (at_.drop (i+1))≤(2^(T.getD (at_.getD i 0) (0,0,0)).2.1-1)*2^fN T (at_.drop (i+1)):=Nat.mul_le_mul_right _ Om;rw[Nat.sub_mul (2^_) 1,Nat.one_mul] at this;have h2:2^fN T (at_.drop (i+1))≤2^(T.getD (at_.getD i 0) (0,0,0)).2.1*2^fN T (at_.drop (i+1)):=Nat.le_mul_of_pos_left _ (Nat.pow_pos Om);omega
    · have:=pj (T:=T) hi;rw[this.1,this.2];decide
structure jS (xs:List Nat) (k len:Nat) (T:List Cell) (at_:List Nat) (i:Nat) (s:BR):Prop where
  pos:iA xs k len s (fN T (at_.drop i)) (fR T (at_.drop i))
theorem jS.bits {xs:List Nat} {k len log i:Nat} {T:List Cell} {text at_:List Nat} {s:BR} (h:jS xs k len T at_ i s) (hT:ju log T text at_) (hb:Bytes xs) (hi:i+2<text.length) (UP:(T.getD (at_.getD i 0) (0,0,0)).2.1≤16) (h1:1≤(T.getD (at_.getD i 0) (0,0,0)).2.1)
    (hr:s.rd+(T.getD (at_.getD i 0) (0,0,0)).2.1≤64∨s.off=0):
    s.rd+(T.getD (at_.getD i 0) (0,0,0)).2.1≤64∧(T.getD (at_.getD i 0) (0,0,0)).2.2+s.iL (T.getD (at_.getD i 0) (0,0,0)).2.1=at_.getD (i+2) 0∧jS xs k len T at_ (i+1) (s.gb (T.getD (at_.getD i 0) (0,0,0)).2.1):=by
  have hi':i+2<at_.length:=by rw[hT.len];exact hi
  obtain⟨e1,e2⟩:=qa (T:=T) hi';have eU:=ju.UO hT _ (i+1) rfl;have hs:=hT.step i hi;have hr':s.rd+(T.getD (at_.getD i 0) (0,0,0)).2.1≤64:=by
    rcases hr with h'|h'
    · exact h'
    · have:=h.pos.n;rw[e1,h'] at this;omega
  obtain⟨hv,_⟩:=h.pos.bits hb h1 UP hr';have hk:=h.pos.skip hb hr';generalize hn:(T.getD (at_.getD i 0) (0,0,0)).2.1=m at*;generalize (T.getD (at_.getD i 0) (0,0,0)).2.2=b at*;have pos:0<2^fN T (at_.drop (i+1)):=Nat.pow_pos Om;rw[e1,e2,Nat.add_sub_cancel_left] at hv;rw[Nat.add_comm (_*_),Nat.add_mul_div_right _ _ pos,Nat.div_eq_of_lt eU,Nat.zero_add] at hv;rw[e1,e2,Nat.add_sub_cancel_left,Nat.add_comm (_*_),Nat.add_mul_mod_self_right,Nat.mod_eq_of_lt eU] at hk;exact⟨hr',Om,⟨hk⟩⟩
def eF (v n:Nat):List Nat:=(List.range n).map fun i=>v/2^i%2
def nd (v n:Nat):List Nat:=(List.range n).map fun i=>v/2^(n-1-i)%2
theorem bl (v n:Nat):(eF v n).length=n:=by simp[eF]
theorem lD (v n:Nat):(nd v n).length=n:=by simp[nd]
theorem y7 (v n:Nat):eF v (n+1)=eF v n++[v/2^n%2]:=by simp[eF,List.range_succ]
def y8 (v n j:Nat):List Nat:=(List.range j).map fun i=>v/2^(n-1-i)%2
theorem DE (v n j:Nat):y8 v n (j+1)=y8 v n j++[v/2^(n-1-j)%2]:=by simp[y8,List.range_succ]
theorem G4 (v n:Nat):y8 v n n=nd v n:=rfl
theorem jm (v n:Nat):jt (eF v n):=fun x hx=>by
  simp only[eF,List.mem_map] at hx;obtain⟨i,_,rfl⟩:=hx;omega
theorem DF (v n:Nat):jt (nd v n):=fun x hx=>by
  simp only[nd,List.mem_map] at hx;obtain⟨i,_,rfl⟩:=hx;omega
theorem DG (v n:Nat):nd v (n+1)=v/2^n%2::nd v n:=by
  simp only[nd,List.range_succ_eq_map,List.map_cons,List.map_map];have e:(List.range n).map ((fun i=>v/2^(n+1-1-i)%2) ∘ Nat.succ)=(List.range n).map fun i=>v/2^(n-1-i)%2:=List.map_congr_left fun i hi=>by
    simp only[Function.comp];rw[show n+1-1-Nat.succ i=n-1-i by omega]
  rw[e];simp
theorem u0:∀(n v:Nat),bitsV (nd v n)=v%2^n
  |0,v=>by simp[nd,bitsV,Nat.mod_one]
  |n+1,v=>by
    rw[DG,bitsV,lD,u0 n v,Nat.pow_succ,Nat.mod_mul,Nat.mul_comm];omega
def lowV:List Nat→Nat
  |[]=>0
  |b::bs=>b+2*lowV bs
theorem gD:∀as bs:List Nat,lowV (as++bs)=lowV as+2^as.length*lowV bs
  |[],bs=>by simp[lowV]
  |a::as,bs=>by
    simp only[List.cons_append,lowV,gD as bs,List.length_cons,Nat.pow_succ,Nat.mul_add];rw[Nat.mul_comm (2^as.length) 2,Nat.mul_assoc];omega
theorem gq:∀(n v:Nat),lowV (eF v n)=v%2^n
  |0,v=>by simp[eF,lowV,Nat.mod_one]
  |n+1,v=>by
    rw[y7,gD,gq n v,bl,Nat.pow_succ,Nat.mod_mul];simp[lowV]
theorem vI:∀{bs:List Nat},jt bs→lowV bs<2^bs.length
  |[],_=>by simp[lowV]
  |b::bs,h=>by
    have h1:=h b List.mem_cons_self;have h2:=vI (bs:=bs) fun x hx=>h x (List.mem_cons_of_mem _ hx)
    simp only[lowV,List.length_cons,Nat.pow_succ];omega
theorem Qm {a b:List Nat} {i:Nat} (h:a.take i=b.take i) (ha:i<a.length) (hb:i<b.length) (he:a.getD i 0=b.getD i 0):a.take (i+1)=b.take (i+1):=by
  rw[List.take_succ_eq_append_getElem ha,List.take_succ_eq_append_getElem hb,h];have:a[i]=b[i]:=by simpa [ha,hb] using he
  rw[this]
theorem Qn {a b:List Nat} {i:Nat} (h:a.take i=b.take i) (ha:a.length≤i) (hb:b.length≤i):a=b:=by
  rwa [List.take_of_length_le ha,List.take_of_length_le hb] at h
def uj (xs:List Nat) (p:Nat):Nat:=xs.getD (p/8) 0/2^(p%8)%2
theorem BE {xs:List Nat} {p:Nat} (h:xs.length≤p/8):uj xs p=0:=by
  simp[uj,List.getD_eq_getElem?_getD,List.getElem?_eq_none h]
theorem Aa (xs:List Nat) (p:Nat):uj xs p<2:=Nat.mod_lt _ Om
theorem y' {xs:List Nat} (hb:Bytes xs) {p n:Nat} (h:p/8<n):uj xs p=tailV xs 0 n/2^p%2:=by
  unfold uj;rw[←rq hb h];have e:(2:Nat)^p=2^(8*(p/8))*2^(p%8):=by rw[←Nat.pow_add];congr 1;omega
  rw[e, ←Nat.div_div_eq_div_mul];generalize tailV xs 0 n/2^(8*(p/8))=q;have BC:(256:Nat)=2^(p%8)*2^(8-p%8):=by rw[←Nat.pow_add,show p%8+(8-p%8)=8 by omega]
  rw[BC,Nat.mod_mul_right_div_self];have:2∣2^(8-p%8):=by rw[show 8-p%8=(7-p%8)+1 by omega,Nat.pow_succ];exact Nat.dvd_mul_left _ _
  exact Nat.mod_mod_of_dvd _ this
def bitsN (xs:List Nat) (p:Nat):Nat→Nat
  |0=>0
  |n+1=>bitsN xs p n+uj xs (p+n)*2^n
def DH (len p:Nat):Nat→Bool
  |0=>true
  |n+1=>DH len p n && decide ((p+n)/8<len)
theorem sH (xs:List Nat) (p:Nat):∀n,bitsN xs p n<2^n
  |0=>by simp[bitsN]
  |n+1=>by
    have h1:=sH xs p n;have h2:=Aa xs (p+n);have h3:uj xs (p+n)*2^n≤1*2^n:=Nat.mul_le_mul_right _ Om;simp only[bitsN,Nat.pow_succ];omega
theorem wI {xs:List Nat} (hb:Bytes xs) {p m:Nat}:∀n,(p+n+7)/8≤m→bitsN xs p n=tailV xs 0 m/2^p%2^n
  |0,_=>by simp[bitsN,Nat.mod_one]
  |n+1,h=>by
    simp only[bitsN];rw[wI (m:=m) hb n Om,y' hb (n:=m) Om,Nat.pow_succ,Nat.mod_mul,Nat.pow_add,Nat.div_div_eq_div_mul,Nat.mul_comm (2^n)]
theorem za {len p:Nat}:∀n,(p+n+7)/8≤len→DH len p n=true
  |0,_=>rfl
  |n+1,h=>by simp only[DH];rw[za n Om,decide_eq_true Om];rfl
theorem jt.at_ {xs:List Nat} (h:jt xs) (i:Nat):xs.getD i 0<2:=by
  rw[List.getD_eq_getElem?_getD];rcases Nat.lt_or_ge i xs.length with hi|hi
  · simp only[hi,List.getElem?_eq_getElem,Option.getD_some];exact h _ (List.getElem_mem hi)
  · simp[List.getElem?_eq_none hi]
theorem aku (e:Nat) (h:e<8):2^e≤128:=Nat.le_trans (Nat.pow_le_pow_right Om (show e≤7 by omega)) Od
theorem jn (n i:Nat):(List.replicate n 0).getD i 0=0:=by
  simp only[List.getD_eq_getElem?_getD,List.getElem?_replicate];split<;>rfl
theorem wJ (n k:Nat):∀m,tailV (List.replicate n 0) k m=0
  |0=>rfl
  |m+1=>by simp only[tailV,wJ n k m,jn,Nat.zero_mul]
def nzc:List Nat→Nat
  |[]=>0
  |x::xs=>(if x=0 then 0 else 1)+nzc xs
def gU:List Nat→Nat
  |[]=>0
  |x::xs=>(if x=0 then 0 else 2^(11-x))+gU xs
theorem cP {xs:List Nat} {i:Nat} (h:i<xs.length):xs.take (i+1)=xs.take i++[xs.getD i 0]:=by
  rw[List.take_succ_eq_append_getElem h];simp[h]
theorem sI:∀xs ys:List Nat,gU (xs++ys)=gU xs+gU ys
  |[],ys=>by simp[gU]
  |x::xs,ys=>by simp only[List.cons_append,gU,sI xs ys];omega
def ft (xs:List Nat) (b:Nat):Prop:=∀x ∈ xs,x≤b
theorem ft.at_ {xs:List Nat} {b:Nat} (h:ft xs b) (i:Nat):xs.getD i 0≤b:=by
  rw[List.getD_eq_getElem?_getD];rcases Nat.lt_or_ge i xs.length with hi|hi
  · simp only[hi,List.getElem?_eq_getElem,Option.getD_some];exact h _ (List.getElem_mem hi)
  · simp[List.getElem?_eq_none hi]
def iE (xs:List Nat):Prop:=xs.length≤256∧ft xs 11∧gU xs=2048∧1<nzc xs
instance (xs:List Nat):Decidable (iE xs):=by unfold iE ft;exact inferInstance
theorem wK {xs:List Nat} {i:Nat} (h:i<xs.length):xs.getD i 0 ∈ xs:=by simp[List.getD_eq_getElem?_getD,h]
theorem JZ {α:Type} {Φ:α→Prop} {P:List α} {y:α} (h:∀x ∈ P,Φ x) (hy:Φ y):∀x ∈ P++[y],Φ x:=fun x hx=>by
  rcases List.mem_append.1 hx with h'|h'
  · exact h x h'
  · rw[List.mem_singleton] at h';subst h';exact hy
def nx (ls:List Nat):Nat→Nat
  |0=>0
  |d+1=>(nx ls d+ls.count (11-d))/2
def yp (ls:List Nat) (m:Nat):Nat:=nx ls (11-m)
theorem wM (ls:List Nat) {m:Nat} (h1:1≤m) (h:m≤11):yp ls (m-1)=(yp ls m+ls.count m)/2:=by
  unfold yp;rw[show 11-(m-1)=(11-m)+1 by omega];simp only[nx];rw[show 11-(11-m)=m by omega]
theorem S0 {ls:List Nat} (h:ls.length≤256):∀d,nx ls d≤256
  |0=>by simp[nx]
  |d+1=>by
    have:=S0 h d;have h2:=List.count_le_length (a:=11-d) (l:=ls);simp only[nx];omega
theorem UQ {ls:List Nat} (h:ls.length≤256) (m:Nat):yp ls m≤256:=S0 h _
def DJ (ls:List Nat) (s:Nat):Nat:=yp ls (ls.getD s 0)+(ls.take s).count (ls.getD s 0)
def iW (ls:List Nat):Prop:=∀m,1≤m→m≤11→(yp ls m+ls.count m)%2=0
structure J0 (ls:List Nat) (c:Nat × Nat × Nat):Prop where
  lt:c.1<ls.length
  len:c.2.2=ls.getD c.1 0∧1≤c.2.2∧c.2.2≤11
  num:c.2.1=DJ ls c.1∧c.2.1≤512
structure DK (ls:List Nat) (s:Nat) (xs:List Nat):Prop where
  even:iW ls
  lt:s<ls.length
  len:1≤ls.getD s 0∧ls.getD s 0≤11
  bits:xs=nd (DJ ls s) (ls.getD s 0)
theorem Qo {xs:List Nat} {i n:Nat} (h:i<xs.length) (h0:xs.getD i 0≠n):(xs.take (i+1)).count n=(xs.take i).count n:=by
  rw[cP h,List.count_append,List.count_cons_of_ne h0];simp
theorem Qp {xs:List Nat} {i n:Nat} (h:i<xs.length) (h0:xs.getD i 0=n):(xs.take (i+1)).count n=(xs.take i).count n+1:=by
  rw[cP h,List.count_append,h0,List.count_singleton_self]
theorem G5 {xs:List (Nat × Nat × Nat)} {i:Nat} (h:i<xs.length):xs.getD i (0,0,0) ∈ xs:=by simp[List.getD_eq_getElem?_getD,h]
abbrev J1:=Option Addr × Nat × Nat
abbrev pk:J1:=(none,0,0)
def uk (T:List J1):List Value:=T.map fun t=>.slice t.1 t.2.1 t.2.2
@[simp] theorem BF (T:List J1):(uk T).length=T.length:=by simp[uk]
theorem BG {T:List J1} {j:Nat} (h:j<T.length):(uk T)[j]? =some (.slice (T.getD j pk).1 (T.getD j pk).2.1 (T.getD j pk).2.2):=by simp[uk,h]
theorem J2 (T:List J1) (j:Nat) (q:Option Addr) (n c:Nat):(uk T).set j (.slice q n c)=uk (T.set j (q,n,c)):=by simp[uk,List.map_set]
theorem J3 (n:Nat):List.replicate n (.slice none 0 0)=uk (List.replicate n pk):=by simp[uk]
structure Cache (ls:List Nat) (T:List J1) (D:List aV):Prop where
  len:T.length=256
  ok:∀c,c<256→(T.getD c pk).1=none∨∃sg ∈ D,∃bits,DK ls c bits∧Rd (T.getD c pk).1 (T.getD c pk).2.1 1 (ae .i64 bits) sg 0
theorem Cache.init {ls:List Nat}:Cache ls (List.replicate 256 pk) []:=⟨List.length_replicate,fun c hc=>.inl (by rw[List.getD_eq_getElem?_getD,List.getElem?_replicate];split<;>rfl)⟩
theorem Cache.put {ls:List Nat} {T:List J1} {D:List aV} {c b o n cap:Nat} {q:Option Addr} {cs:List Value} {bits:List Nat} (h:Cache ls T D) (hg:GS q b o cs 1 cap) (hn:n≤cap) (hp:cs.take n=ae .i64 bits) (hc:c<256) (hb:q=none∨DK ls c bits):
    Cache ls (T.set c (q,n,cap)) (⟨b,o,cs,none⟩::D):=by
  refine⟨by simp[h.len],fun e he=>?_⟩;by_cases hec:c=e
  · subst hec;have hl:c<T.length:=by rw[h.len];exact hc
    have e1:(T.set c (q,n,cap)).getD c pk=(q,n,cap):=by simp[List.getD_eq_getElem?_getD,hl]
    rw[e1];rcases hb with hb|hb
    · exact .inl hb
    · exact .inr ⟨_,List.mem_cons_self,bits,hb,Rd.ym hg hn hp⟩
  · have e1:(T.set c (q,n,cap)).getD e pk=T.getD e pk:=by simp[List.getD_eq_getElem?_getD,List.getElem?_set_ne hec]
    rw[e1];exact(h.ok e he).imp id fun ⟨sg,h1,h2⟩=>⟨sg,List.mem_cons_of_mem _ h1,h2⟩
theorem Src.ac6 {l r:List aV} {q:Option Addr} {n sz:Nat} {row:List Value} {s:aV} {j:Nat} (hm:s ∈ l++r) (h:Rd q n sz row s j):Src l r q row:=by
  rcases Nat.eq_zero_or_pos n with h0|h0
  · left;have:=h.len;rw[h0,Nat.zero_mul] at this;exact List.eq_nil_of_length_eq_zero this
  · exact .inr ⟨s,hm,j,h.ad h0,h.cs⟩
@[simp] theorem Qq (k:IntKind) (xs:List Int):(ints k xs).length=xs.length:=by simp[ints]
theorem wN (k:IntKind) (n:Nat):ae k (List.replicate n 0)=ints k (List.replicate n 0):=by simp[ae,ints]
def FF (Φ:List (Nat × Nat × Nat)→Prop) (v:Value) (l':List aV):Prop:=∃ok q b o cs cap xs n,v=.tuple #[.slice q n cap,.bool ok]∧GS q b o cs 3 cap∧n≤cap∧cs.take (n*3)=rows f3 xs∧xs.length=n∧(ok=true→Φ xs)∧l'=[⟨b,o,cs,none⟩]
theorem FF.whole {Φ:List (Nat × Nat × Nat)→Prop} {P:List (Nat × Nat × Nat)} {m b:Nat} (hl:P.length=m) (h:Φ P):FF Φ (.tuple #[.slice (some ⟨b,0,none⟩) m m,.bool true]) [⟨b,0,rows f3 P,none⟩]:=
  ⟨true,_,b,0,_,m,P,m,rfl,⟨by rw[aP mO,hl],.inl rfl⟩,Nat.le_refl _,List.take_of_length_le (by rw[aP mO,hl];exact Nat.le_refl _),hl,fun _=>h,rfl⟩
theorem G6 (n:Nat):(List.replicate n ([.int .i64 ((0:Nat):Int),.int .i64 ((0:Nat):Int),.int .i64 ((0:Nat):Int)]:List Value)).flatten=rows f3 (List.replicate n (0,0,0)):=by
  induction n with
  |zero=>rfl
  |succ n ih=>simp only[List.replicate_succ,List.flatten_cons,rows,List.flatMap_cons] at ih ⊢;rw[ih];rfl
section
variable {P:Program} {K:Kx} {Q:Exit→Act→World→Prop} {ρ:bx} {l l' r:List aV} {cd:Code} {e:Exit}
theorem GQ.perm (hp:l.Perm l') (h:GQ K Q e ρ l' r):GQ K Q e ρ l r:=fun a w ha=>h a w (ha.perm hp)
end
def um (ls:List Nat) (c:Nat):Nat × Nat:=(ls.getD c 0,DJ ls c)
def codeBits (ls:List Nat):List Nat→List Nat
  |[]=>[]
  |c::t=>nd (DJ ls c) (ls.getD c 0)++codeBits ls t
theorem qM (ls:List Nat):∀(t:List Nat) (c:Nat),codeBits ls (t++[c])=codeBits ls t++nd (DJ ls c) (ls.getD c 0)
  |[],c=>by simp[codeBits]
  |x::t,c=>by simp only[List.cons_append,codeBits,qM ls t c,List.append_assoc]
theorem iX (ls:List Nat):∀t:List Nat,(codeBits ls t).length=tN (um ls) t
  |[]=>rfl
  |c::t=>by simp only[codeBits,List.length_append,lD,iX ls t,tN,um]
theorem qN (ls:List Nat):∀t:List Nat,jt (codeBits ls t)
  |[]=>by simp[jt,codeBits]
  |c::t=>(DF _ _).append (qN ls t)
theorem pn (ls:List Nat):∀t:List Nat,(∀c ∈ t,DJ ls c<2^ls.getD c 0)→bitsV (codeBits ls t)=tR (um ls) t
  |[],_=>rfl
  |c::t,h=>by
    simp only[codeBits];rw[lC,u0,pn ls t (fun x hx=>h x (List.mem_cons_of_mem _ hx)),iX,Nat.mod_eq_of_lt (h c List.mem_cons_self)]
    rfl
def fp (cl v:Nat):List Nat:=if v<2^aj cl-1-cl then eF v (aj cl-1) else if v<2^(aj cl-1) then eF v (aj cl) else eF (v+(2^aj cl-1-cl)) (aj cl)
def bN:Nat→List Nat
  |0=>eF 0 2
  |1=>eF 1 2
  |2=>eF 2 2
  |m+3=>eF 3 2++bN m
theorem u3 {m:Nat} (h:3≤m):bN m=eF 3 2++bN (m-3):=by
  obtain⟨k,rfl⟩:∃k,m=k+3:=⟨m-3,Om⟩
  rfl
theorem wO {m:Nat} (h:m<3):bN m=eF m 2:=by
  match m,h with
  |0,_=>rfl
  |1,_=>rfl
  |2,_=>rfl
theorem uo {xs:List Nat} {i:Nat} (h:i<xs.length):xs.drop i=xs.getD i 0::xs.drop (i+1):=by rw[List.drop_eq_getElem_cons h];simp[h]
theorem mD:∀(xs:List Nat) (i:Nat),(xs.take i).sum≤xs.sum
  |[],i=>by simp
  |x::xs,0=>by simp
  |x::xs,i+1=>by
    have:=mD xs i;simp only[List.take_succ_cons,List.sum_cons];omega
theorem Bytes.ac7 (n:Nat):Bytes (List.replicate n 0):=fun y hy=>by rw[List.mem_replicate] at hy;omega
theorem vX (Z:List Int) (i:Nat):(Z.map Int.toNat).getD i 0=(Z.getD i 0).toNat:=by
  simp only[List.getD_eq_getElem?_getD,List.getElem?_map];cases Z[i]? <;>rfl
theorem jt.app {a b:List Nat} (ha:jt a) (hb:jt b):jt (a++b):=fun x hx=>(List.mem_append.1 hx).elim (ha x) (hb x)
theorem nf (cl v:Nat):jt (fp cl v):=by
  unfold fp;split
  · exact jm _ _
  · split<;>exact jm _ _
theorem jo:∀m,jt (bN m)
  |0=>jm _ _
  |1=>jm _ _
  |2=>jm _ _
  |m+3=>jt.app (jm 3 2) (jo m)
theorem fW {α:Type} {d r:α} {T F:List α} {u:Nat} (h:∀j,j<u→T.getD j d=F.getD j d) (hu:u<T.length) (hr:F.getD u d=r):∀j,j<u+1→(T.set u r).getD j d=F.getD j d:=fun j hj=>by
  by_cases e:j=u
  · subst e;simp[List.getD_eq_getElem?_getD,hu] at hr ⊢;exact hr.symm
  · have:=h j Om;simpa [List.getD_eq_getElem?_getD,List.getElem?_set_ne (fun h=>e h.symm)] using this
theorem uq {α:Type} {d:α} {T F:List α} {u:Nat} (h:∀j,j<u→T.getD j d=F.getD j d) (hl:T.length=F.length) (hu:T.length≤u):T=F:=by
  apply List.ext_getElem hl;intro i h1 h2;have:=h i Om;simpa [List.getD_eq_getElem?_getD,h1,h2] using this
theorem zc {C S:List Nat} {n u s:Nat} (h:∀x,x<n→S.getD x 0=(C.take u).count x) (hu:u<C.length) (hs:C.getD u 0=s) (hn:S.length=n) (hsn:s<n):∀x,x<n→(S.set s (S.getD s 0+1)).getD x 0=(C.take (u+1)).count x:=fun x hx=>by
  rw[cP hu,hs,List.count_append, ←h x hx];by_cases e:x=s
  · subst e;rw[List.count_singleton_self];simp[List.getD_eq_getElem?_getD,hn,hsn]
  · rw[List.count_singleton];have:(s==x)=false:=by simp;omega
    simp[this,List.getD_eq_getElem?_getD,List.getElem?_set_ne (fun h=>e h.symm)]
theorem jT {α:Type} {Z:List α} {d v:α} {i p:Nat} (h:i<Z.length):(Z.set i v).getD p d=if p=i then v else Z.getD p d:=by
  split
  · next e=>subst e;simp[List.getD_eq_getElem?_getD,h]
  · next e=>simp[List.getD_eq_getElem?_getD,List.getElem?_set_ne (fun h=>e h.symm)]
theorem fX {α:Type} {Z:List α} {d v:α} {i p:Nat} (hp:p≠i):(Z.set i v).getD p d=Z.getD p d:=by
  simp[List.getD_eq_getElem?_getD,List.getElem?_set_ne (fun h=>hp h.symm)]
def sJ (L n:Nat):Nat:=if n=0 then 0 else L+1-n
def cH (ls:List Nat) (L last:Nat):List Nat:=(ls.take last).map (sJ L)
structure HW (ls:List Nat) (L last:Nat):Prop where
  le:ft ls L
  at_:∃p,p<ls.length∧ls.getD p 0=L
  lt:last<ls.length
  nz:ls.getD last 0≠0
  z:∀p,last<p→ls.getD p 0=0
theorem kA {ls:List Nat} {L last:Nat} (h:last≤ls.length):(cH ls L last).length=last:=by simp[cH];omega
theorem yq {ls:List Nat} {L last p:Nat} (h:last≤ls.length) (hp:p<last):(cH ls L last).getD p 0=sJ L (ls.getD p 0):=by
  simp[cH,List.getD_eq_getElem?_getD,hp,show p<ls.length by omega]
theorem sK {ls:List Nat} {L last:Nat}:ft (cH ls L last) L:=fun x hx=>by
  obtain⟨n,_,rfl⟩:=List.mem_map.1 hx;unfold sJ;split<;>omega
def nib:List Nat→List Nat
  |a::b::r=>(a*16+b)::nib r
  |[a]=>[a*16]
  |[]=>[]
theorem ru:∀xs:List Nat,(nib xs).length=(xs.length+1)/2
  |[]=>by simp[nib]
  |[a]=>by simp[nib]
  |a::b::r=>by simp only[nib,List.length_cons,ru r];omega
theorem UR (a x:Nat) (h:x<16):a*16|||x=a*16+x:=by
  have:=Nat.two_pow_add_eq_or_of_lt (i:=4) (b:=x) h a;rw[show(2:Nat)^4*a=a*16 by omega] at this;exact this.symm
theorem fit {C:List Nat} {k v w:Nat} (h:ft C w) (hv:v≤w):ft (C.set k v) w:=fun y hy=>by
  rcases List.mem_or_eq_of_mem_set hy with h1|h1
  · exact h y h1
  · omega
theorem zd:∀xs:List Nat,ft xs 15→Bytes (nib xs)
  |[],_=>fun x hx=>by simp[nib] at hx
  |[a],h=>fun x hx=>by
    have:=h a Oi;simp[nib] at hx;omega
  |a::b::r,h=>fun x hx=>by
    have h1:=h a Oi;have h2:=h b Oi;simp only[nib,List.mem_cons] at hx;rcases hx with hx|hx
    · omega
    · exact zd r (fun y hy=>h y (by simp[hy])) x hx
end Go.Proofs.YtaphmhiddngdoaaGreatDoor
namespace Go.Proofs.YtaphmhiddngdoaaGreatDoor
open Go
theorem App.US {k:IntKind} {Z:List Int} {xs:List Nat} {m b:Nat} (h:ints k Z=ae k xs) (hl:xs.length=m):App k xs m (.slice (some ⟨b,0,none⟩) m m) [⟨b,0,ints k Z,none⟩]:=by
  rw[h];exact⟨_,b,0,_,m,rfl,⟨by simp[hl],.inl rfl⟩,Nat.le_refl _,List.take_of_length_le (by simp[hl]),hl,rfl⟩
theorem G7 (k:IntKind) (C:List Nat):ae k C=ints k (C.map Int.ofNat):=by simp[ae,ints,Function.comp_def]
end Go.Proofs.YtaphmhiddngdoaaGreatDoor
namespace Go.Proofs.YtaphmhiddngdoaaGreatDoor
def qb (xs:List Nat) (len p:Nat) (bs:List Nat):Prop:=(p+bs.length+7)/8≤len∧tailV xs 0 len/2^p%2^bs.length=lowV bs
theorem qb.take {xs bs:List Nat} {len p v n:Nat} (h:qb xs len p (eF v n++bs)) (hb:Bytes xs):bitsN xs p n=v%2^n∧qb xs len (p+n) bs∧(p+n+7)/8≤len:=by
  obtain⟨h1,h2⟩:=h;rw[List.length_append,bl] at h1 h2;have hf:(p+n+7)/8≤len:=Om;rw[gD,gq,bl,Nat.pow_add] at h2;have eU:v%2^n<2^n:=Nat.mod_lt _ (Nat.pow_pos Om);refine⟨?_,⟨Om,?_⟩,hf⟩
  · rw[wI hb n hf];have:=congrArg (· %2^n) h2;simp only[Nat.mod_mul_right_mod,Nat.add_mul_mod_self_left] at this;rw[this,Nat.mod_mod]
  · have:=congrArg (· /2^n) h2;simp only[Nat.mod_mul_right_div_self] at this;rw[Nat.pow_add, ←Nat.div_div_eq_div_mul,this,Nat.add_mul_div_left _ _ (Nat.pow_pos Om),Nat.div_eq_of_lt eU,Nat.zero_add]
theorem FG (v n:Nat):eF v (n+1)=eF v n++eF (v/2^n) 1:=by rw[y7];simp[eF]
theorem G8 {xs bs:List Nat} {len p cl v:Nat} (h:qb xs len p (fp cl v++bs)) (hb:Bytes xs) (hv:v≤cl) (h0:0<cl):
    (p+(aj cl-1)+7)/8≤len∧((v<2^aj cl-1-cl∧bitsN xs p (aj cl-1)=v∧qb xs len (p+(aj cl-1)) bs∧(fp cl v).length=aj cl-1)∨
      (2^aj cl-1-cl≤bitsN xs p (aj cl-1)∧(p+(aj cl-1)+1+7)/8≤len∧qb xs len (p+(aj cl-1)+1) bs∧(fp cl v).length=aj cl-1+1∧
        ((bitsN xs (p+(aj cl-1)) 1=1∧bitsN xs p (aj cl-1)+2^(aj cl-1)=v+(2^aj cl-1-cl)∧2^(aj cl-1)≤v)∨(bitsN xs (p+(aj cl-1)) 1=0∧bitsN xs p (aj cl-1)=v∧v<2^(aj cl-1))))):=by
  have hk:=dk h0;have wP:=n3 h0;have yl:=gM cl;obtain⟨k,Ab⟩:∃k,aj cl=k+1:=⟨aj cl-1,Om⟩;rw[Ab,Nat.pow_succ] at yl;rw[Ab,Nat.add_sub_cancel] at wP;by_cases h1:v<2^aj cl-1-cl
  · have e:fp cl v=eF v (aj cl-1):=if_pos h1;rw[e] at h;obtain⟨a,b,c⟩:=h.take hb;rw[Ab,Nat.pow_succ] at h1;refine⟨c,.inl ⟨by rw[Ab,Nat.pow_succ];exact h1,?_,b,by rw[e,bl]⟩⟩;rw[a,Nat.mod_eq_of_lt];rw[Ab,Nat.add_sub_cancel];omega
  · by_cases h2:v<2^(aj cl-1)
    · have e:fp cl v=eF v (aj cl):=by unfold fp;rw[if_neg h1,if_pos h2]
      rw[e,Ab,FG,List.append_assoc] at h;obtain⟨a,b,c⟩:=h.take hb;obtain⟨a2,b2,c2⟩:=b.take hb;rw[Ab,Nat.add_sub_cancel] at h2;rw[Nat.mod_eq_of_lt h2] at a;rw[Nat.div_eq_of_lt h2] at a2;rw[Ab,Nat.pow_succ] at h1;rw[Ab,Nat.add_sub_cancel,Nat.pow_succ];exact⟨c,.inr ⟨Om,c2,b2,by rw[e,bl,Ab],.inr ⟨a2,a,h2⟩⟩⟩
    · have e:fp cl v=eF (v+(2^aj cl-1-cl)) (aj cl):=by unfold fp;rw[if_neg h1,if_neg h2]
      rw[e,Ab,FG,List.append_assoc] at h;obtain⟨a,b,c⟩:=h.take hb;obtain⟨a2,b2,c2⟩:=b.take hb;rw[Ab,Nat.add_sub_cancel] at h2;rw[Ab,Nat.pow_succ] at h1;rw[Nat.pow_succ] at a a2;have eU:v+(2^k*2-1-cl)<2^k*2:=Om;have hd:(v+(2^k*2-1-cl))/2^k=1:=by
        rw[Nat.div_eq_of_lt_le]<;>omega
      have hm:(v+(2^k*2-1-cl))%2^k=v+(2^k*2-1-cl)-2^k:=by
        have:=Nat.div_add_mod (v+(2^k*2-1-cl)) (2^k);rw[hd,Nat.mul_one] at this;omega
      rw[hm] at a;rw[hd] at a2;rw[Ab,Nat.add_sub_cancel,Nat.pow_succ];exact⟨c,.inr ⟨Om,c2,b2,by rw[e,bl,Ab],.inl ⟨a2,Om,Om⟩⟩⟩
theorem J4 {xs bs:List Nat} {len p z:Nat} (h:qb xs len p (bN z++bs)) (hb:Bytes xs):
    ∃t,bitsN xs p 2=t∧t≤3∧t≤z∧(p+2+7)/8≤len∧((t=3∧qb xs len (p+2) (bN (z-3)++bs)∧(bN z).length=2+(bN (z-3)).length)∨(t<3∧t=z∧qb xs len (p+2) bs∧(bN z).length=2)):=by
  by_cases h3:3≤z
  · have e:=u3 h3;rw[e,List.append_assoc] at h;obtain⟨a,b,c⟩:=h.take hb;exact⟨3,a,Om,h3,c,.inl ⟨rfl,b,by rw[e,List.length_append,bl]⟩⟩
  · have e:=wO (show z<3 by omega);rw[e] at h;obtain⟨a,b,c⟩:=h.take hb;rw[Nat.mod_eq_of_lt Om] at a;exact⟨z,a,Om,Nat.le_refl _,c,.inr ⟨Om,rfl,b,by rw[e,bl]⟩⟩
theorem qb.skip {xs a bs:List Nat} {len p:Nat} (h:qb xs len p (a++bs)) (ha:jt a):qb xs len (p+a.length) bs:=by
  obtain⟨h1,h2⟩:=h;rw[List.length_append] at h1 h2;rw[gD,Nat.pow_add] at h2;refine⟨Om,?_⟩;have:=congrArg (· /2^a.length) h2;simp only[Nat.mod_mul_right_div_self] at this;rw[Nat.pow_add, ←Nat.div_div_eq_div_mul,this,Nat.add_mul_div_left _ _ (Nat.pow_pos Om),Nat.div_eq_of_lt (vI ha),Nat.zero_add]
theorem qb.le {xs bs:List Nat} {len p:Nat} (h:qb xs len p bs):p≤8*len:=by have:=h.1;omega
theorem qb.UT {xs bs:List Nat} {len:Nat} (hl:(bs.length+7)/8≤len) (h:tailV xs 0 len%2^bs.length=lowV bs):qb xs len 0 bs:=⟨Om,by rw[Nat.pow_zero,Nat.div_one];exact h⟩
end Go.Proofs.YtaphmhiddngdoaaGreatDoor
namespace Go.Proofs.YtaphmhiddngdoaaGreatDoor
open Go
theorem J5 {n i:Nat} {cs:List Value} {xs:List (Nat × Nat × Nat)} (h:cs.take (n*3)=rows f3 xs) (hl:xs.length=n) (hi:i<n):cs[i*3]? =some (.int .i64 (((xs.getD i (0,0,0)).1:Nat):Int)):=by
  have h1:=wH mO (0,0,0) h hl hi;have h2:((cs.drop (i*3)).take 3)[0]? =cs[i*3]? :=by rw[List.getElem?_take,if_pos Om,List.getElem?_drop,Nat.add_zero]
  rw[←h2,h1];rfl
section
variable {P:Program} {fn:Func} {fo:Value→List aV→Prop} {l0 l r:List aV} {w0:World} {n:Nat} {p rest:List aV} {ρ:bx}
theorem Ac {w:World} {vs:List Value} {t:TypeId} {b q:Nat} (hP:fm P t=some true) (hz:cL P t=some vs.length) (h:∀j,j<vs.length→w.cell? ⟨b,q+j,none⟩=some (vs.getD j undef)):(loadVar t ⟨b,q,none⟩).run P w=.ok (.agg vs.toArray) w:=by
  have:=run_loadCellsFrom (P:=P) (w:=w) ⟨b,q,none⟩ vs.length 0 vs.toArray #[] (fun j hj=>by rw[eM,Nat.zero_add,h j hj];simp) Oi;simp[loadVar,m5 hP,dj hz,loadCells,this]
theorem J6 {t1 a t3 ty sz q:Nat} {v1 v3:Value} {sg:aV} {vs:List Value} (is:List Nat) (i j:Nat) (ud:fn.results= #[.tmp t1,.cell a ty,.tmp t3]) (z5:look t1 ρ=some v1) (hva:look a ρ=some (.pointer (some ⟨sg.b,q,none⟩))) (hs:nthS i l=some sg) (hP:fm P ty=some true) (hz:cL P ty=some sz) (hq:q=sg.o+j) (hv:(sg.cs.drop j).take sz=vs) (hn:vs.length=sz) (JF:look t3 ρ=some v3) (hp:pickS is l=some (p,rest)) (hPo:fo (.tuple #[v1,.agg vs.toArray,v3]) p):
    GQ ⟨n,l0,w0⟩ (bodyPost P fn (Ends fo l0 r w0)) .ret ρ l r:=
  fun ac w ha=>⟨ha.defers,_,by
    have kQ:=ha.st.hl sg (fb _ _ _ hs);have e:=Ac (P:=P) (w:=w) (b:=sg.b) (q:=q) (vs:=vs) hP (by rw[hz,hn]) (fun i hi=>by
      subst hq;rw[show sg.o+j+i=sg.o+(j+i) by omega];exact kQ.1 (j+i) _ (wg hv hn Om))
    simp[results,ud,ha.fr _ _ z5,ha.fr _ _ hva,ha.fr _ _ JF,asAddr,e],nU (ha.pick is hp) hPo⟩
end
section
variable {P:Program} {ρ:bx} {o:Oper} {t:TypeId} {n sz:Nat}
theorem S1 {zs vs:List Value} {pv:List (Nat × Value)} {ps:List (Nat × Operand)} (ho:o.op=.build t ps.toArray) (Ii:evs ρ (ps.map (·.2))=some (pv.map (·.2))∧ps.map (·.1)=pv.map (·.1)) (hS:dJ P t=some (n,sz)) (hZ:eL P t=some zs)
    (hf:Instr.fill (fun i=>some (i*sz,sz)) zs.toArray pv=some vs.toArray):bJ P ρ o (.agg vs.toArray):=by
  intro a ha w;have UG:ps.map (fun p=>(p.1,a.eval p.2))=pv:=by
    have h1:=rh ha _ _ Ii.1;have h2:=Ii.2;clear hf Ii ho;induction ps generalizing pv with
    |nil=>cases pv with
      |nil=>rfl
      |cons=>simp at h2
    |cons p ps ih=>cases pv with
      |nil=>simp at h2
      |cons u us=>
        simp at h1 h2;simp only[List.map_cons,List.cons.injEq];exact⟨by rw[h1.1,h2.1],ih (by simpa using h1.2) h2.2⟩
  unfold eL at hZ;cases hi:P.info? t with
  |none=>simp[hi] at hZ
  |some i=>
    cases ue:i.zero with
    |none=>simp[hi,ue] at hZ
    |some zv=>
      simp[hi,ue] at hZ;have Dx:zv.cells=zs.toArray:=by apply Array.toList_inj.1;simpa using hZ
      unfold dJ at hS;cases hu:P.underlying t with
      |none=>simp[hu] at hS
      |some D=>
        cases D<;>simp[hu] at hS;rename_i m e;cases hs:cL P e with
        |none=>simp[hs] at hS
        |some s=>
          simp[hs] at hS;obtain⟨rfl,rfl⟩:=hS;have hzr:(zeroValue t).run P w=.ok zv w:=by simp[zeroValue,jO hi,ue]
          simp only[execOp,ho];have Qf:(ps.toArray.map fun (p:Nat × Operand)=>(p.1,a.eval p.2)).toList=pv:=by simpa using UG
          simp only[Instr.build,Sem.run_bind,hzr,Result.andThen_ok,bA hu,dj hs,Qf,Dx,hf,Sem.run_pure]
end
def fD (c:Nat × Nat × Nat):List Value:=[.int .u16 ((c.2.2:Nat):Int),.int .u8 ((c.1:Nat):Int),.int .u8 ((c.2.1:Nat):Int)]
theorem eG (c:Nat × Nat × Nat):(fD c).length=3:=rfl
theorem Qr {T:List (Nat × Nat × Nat)} {i:Nat} (h:i<T.length):(rows fD T)[i*3]? =some (.int .u16 (((T.getD i (0,0,0)).2.2:Nat):Int)):=sE (e:=0) eG (0,0,0) h Od
theorem FH {T:List (Nat × Nat × Nat)} {i:Nat} (h:i<T.length):(rows fD T)[i*3+1]? =some (.int .u8 (((T.getD i (0,0,0)).1:Nat):Int)):=sE eG (0,0,0) h Od
theorem FI {T:List (Nat × Nat × Nat)} {i:Nat} (h:i<T.length):(rows fD T)[i*3+2]? =some (.int .u8 (((T.getD i (0,0,0)).2.1:Nat):Int)):=sE eG (0,0,0) h Od
theorem Qs (n:Nat):(List.replicate n ([.int .u16 ((0:Nat):Int),.int .u8 ((0:Nat):Int),.int .u8 ((0:Nat):Int)]:List Value)).flatten=rows fD (List.replicate n (0,0,0)):=by
  induction n with
  |zero=>rfl
  |succ n ih=>simp only[List.replicate_succ,List.flatten_cons,rows,List.flatMap_cons] at ih ⊢;rw[ih];rfl
theorem J7 (W:List Nat) (j:Nat):cG W j []=W:=by simp[cG]
section
variable {P:Program} {K:Kx} {Q:Exit→Act→World→Prop} {ρ:bx} {l r:List aV} {o:Oper} {t n m cap q d:Nat} {k:IntKind}
theorem aX {ca:Call} {q2:Option Addr} {c2 e qs:Nat} {zs:List Value} {W ys:List Nat} {sg:aV} (i j:Nat) (ho:o.op=.call ca) (hc:ca.callee=.builtin .append) (jj:evs ρ ca.args.toList=some [.slice (some ⟨sg.b,q,none⟩) n cap,.slice q2 m c2]) (oB:ca.argTypes= #[t,t]) (hP:fe P t=some (e,zs,1,qs)) (hz:zs.length=1)
    (hs:nthS i l=some sg) (hq:q=sg.o+j) (uP:sg.cs=ae k W∧j+n+m≤W.length) (qt:Src l r q2 (ae k ys)) (hn:n+m≤cap∧ys.length=m) (hd:o.dst=some d) (uQ:Nat.blt d K.n=true):
    nN P K ρ l r o (fun ρ' l'=>ρ'=(d,.slice (some ⟨sg.b,q,none⟩) (n+m) cap)::ρ∧l'=setS i ⟨sg.b,sg.o,ae k (cG W (j+n) ys),sg.sh⟩ l):=by
  intro a w ha nx Q pY;obtain⟨na,hlen⟩:=hn;obtain⟨b,o',cs,sh⟩:=sg;simp only at uP hq jj hs ⊢;obtain⟨rfl,hj⟩:=uP;subst hq;obtain⟨i',zv,hu,hi,ue,su,Bw,Qd⟩:=jQ hP;have wq:∀w,(sizeOf e).run P w=.ok 1 w:=dj (by simp[cL,hi,Bw]);have nS:=nY ha.fr jj;have UC:∀u ∈ ae k ys,u.oneCell'=true:=fun u hu=>List.all_eq_true.1 (sw ys) u hu
  have uW:∀(u:Value) (w':World),(Builtin.append_ #[t,t] o.type #[.slice (some ⟨b,o'+j,none⟩) n cap,.slice q2 m c2]).run P w=.ok u w'→(execOp a.eval o).run P w=.ok (.value u) w':=fun u w' h=>by
    simp[execOp,ho,resolve,hc,nS,invoke,builtin,oB,h]
  have SS:zv.cells.size=1:=by rw[←hz, ←su];simp
  have Qt:(ae k ys).length=m*1:=by simp[hlen]
  unfold Oper.wp;have none_:m=0→nx (a.put (some d) (.slice (some ⟨b,o'+j,none⟩) (n+m) cap)) w:=fun hm=>by
    subst hm;have e0:ys=[]:=List.eq_nil_of_length_eq_zero hlen;subst e0;refine pY _ _ ⟨_,_,⟨rfl,rfl⟩,?_⟩;rw[J7,ku i _ l hs];exact ha.put uQ _
  by_cases SU:m=0
  · have JM:(Builtin.firstCells 1 0 (.slice q2 0 c2)).run P w=.ok #[] w:=by
      cases q2<;>simp[Builtin.firstCells,loadCells,loadCellsFrom]
    have hr:(Builtin.append_ #[t,t] o.type #[.slice (some ⟨b,o'+j,none⟩) n cap,.slice q2 0 c2]).run P w=.ok (.slice (some ⟨b,o'+j,none⟩) (n+0) cap) w:=by
      simp[Builtin.append_,bA hu,wq,Builtin.lenOf,show n≤cap by omega,JM,storeCells]
    have ac8:=none_ SU;subst SU;rw[uW _ _ hr];simp only[Oper.upon,hd];exact ac8
  · rcases qt.cells ha with z7|⟨ad,UF,nZ⟩
    · exact(SU (by rw[←hlen];have:=congrArg List.length z7;simpa using this)).elim
    · subst UF;have JM:=run_firstCells_some (P:=P) w 1 m ad m c2 (ae k ys) Qt nZ;obtain⟨w',SV,hA⟩:=ie (P:=P) (ae k ys) 0 (j+n) l w ⟨b,o',ae k W,sh⟩ i b (o'+j+n) ha hs rfl (by show o'+j+n=o'+(j+n);omega) Oz UC;have hr:(Builtin.append_ #[t,t] o.type #[.slice (some ⟨b,o'+j,none⟩) n cap,.slice (some ad) m c2]).run P w=.ok (.slice (some ⟨b,o'+j,none⟩) (n+m) cap) w':=by
        simp[Builtin.append_,bA hu,wq,Builtin.lenOf,na,JM,eM,SV]
      rw[uW _ _ hr];simp only[Oper.upon,hd];refine pY _ _ ⟨_,_,⟨rfl,rfl⟩,?_⟩;have e1:=wu (k:=k) W ys (j+n) Om;rw[←e1];exact hA.put uQ _
end
end Go.Proofs.YtaphmhiddngdoaaGreatDoor
namespace Go.Proofs.YtaphmhiddngdoaaGreatDoor
def sub (text:List Nat) (a m:Nat):List Nat:=(text.drop a).take m
section
variable {xs dt:List Nat} {k len L:Nat} {cd:Nat→Nat × Nat} {S:Nat→Prop} {s:BR} {text:List Nat} {a m:Nat}
end
theorem ij {xs:List Nat} {i j v:Nat} (h:i<xs.length):(xs.set i v).getD j 0=if i=j then v else xs.getD j 0:=by
  simp only[List.getD_eq_getElem?_getD,List.getElem?_set];split
  · rename_i e;subst e;simp[h]
  · rfl
theorem qc {ds ys:List Nat} {j p:Nat} (h:j+ys.length≤ds.length):(cG ds j ys).getD p 0=if j≤p∧p<j+ys.length then ys.getD (p-j) 0 else ds.getD p 0:=by
  simp only[List.getD_eq_getElem?_getD,cG];by_cases h1:p<j
  · rw[if_neg Om,List.append_assoc,List.getElem?_append_left Oz,List.getElem?_take,if_pos h1]
  · by_cases h2:p<j+ys.length
    · rw[if_pos ⟨Om,h2⟩,List.getElem?_append_left Oz,List.getElem?_append_right Oz];congr 2;simp;omega
    · rw[if_neg Om,List.getElem?_append_right Oz,List.getElem?_drop];congr 2;simp;omega
section
variable {P:Program} {K:Kx} {Q:Exit→Act→World→Prop} {ρ:bx} {l r:List aV} {L rest:List Oper} {o:Oper}
theorem At.split {a:Act} {w:World} {b o o':Nat} {xs ys:List Value} {sh:Option (TypeId × Nat)} (h:At K ρ (⟨b,o,xs++ys,sh⟩::l) r a w) (ho:o'=o+xs.length):At K ρ (⟨b,o,xs,none⟩::⟨b,o',ys,none⟩::l) r a w:=by
  subst ho;have kQ:=h.st.hl _ List.mem_cons_self;have pc:=List.pairwise_cons.1 h.st.pw;have hx:∀b' j:Nat,(⟨b,o,xs,none⟩:aV).has b' j→(⟨b,o,xs++ys,sh⟩:aV).has b' j:=fun b' j ⟨h1,h2,h3⟩=>⟨h1,h2,by simp at h3 ⊢;omega⟩
  have hy:∀b' j:Nat,(⟨b,o+xs.length,ys,none⟩:aV).has b' j→(⟨b,o,xs++ys,sh⟩:aV).has b' j:=fun b' j ⟨h1,h2,h3⟩=>⟨h1,by simp at h2 ⊢;omega,by simp at h2 h3 ⊢;omega⟩
  refine⟨h.size,h.defers,h.fr,h.keeps,⟨?_,h.st.hr,?_,?_⟩,?_⟩
  · intro u hu;rcases List.mem_cons.1 hu with h'|hu
    · subst h';refine⟨fun j v hj=>kQ.1 j v ?_,fun j hj=>kQ.2.1 j (by simp at hj ⊢;omega),fun x hx=>by cases hx⟩;have:j<xs.length:=(List.getElem?_eq_some_iff.1 hj).1;show(xs++ys)[j]? =_;rw[List.getElem?_append_left this];exact hj
    · rcases List.mem_cons.1 hu with h'|hu
      · subst h';refine⟨fun j v hj=>?_,fun j hj=>?_,fun x hx=>by cases hx⟩
        · have:=kQ.1 (xs.length+j) v (by
            show(xs++ys)[xs.length+j]? =_;rw[List.getElem?_append_right Om];simpa using hj)
          rw[←Nat.add_assoc] at this;exact this
        · have:=kQ.2.1 (xs.length+j) (by simp at hj ⊢;omega);rw[←Nat.add_assoc] at this;exact this
      · exact h.st.hl u (List.mem_cons_of_mem _ hu)
  · refine List.Pairwise.cons (fun u hu=>?_) (List.Pairwise.cons (fun u hu=>?_) pc.2)
    · rcases List.mem_cons.1 hu with h'|hu
      · subst h';intro b' j h1 h2;have a1:=h1.2.2;have a2:=h2.2.1;simp at a1 a2;omega
      · exact fun b' j h1 h2=>pc.1 u hu b' j (hx b' j h1) h2
    · exact fun b' j h1 h2=>pc.1 u hu b' j (hy b' j h1) h2
  · intro u hu t ht;rcases List.mem_cons.1 hu with h'|hu
    · subst h';exact fun b' j h1 h2=>h.st.lr _ List.mem_cons_self t ht b' j (hx b' j h1) h2
    · rcases List.mem_cons.1 hu with h'|hu
      · subst h';exact fun b' j h1 h2=>h.st.lr _ List.mem_cons_self t ht b' j (hy b' j h1) h2
      · exact h.st.lr u (List.mem_cons_of_mem _ hu) t ht
  · intro u hu b' j hh;rcases List.mem_cons.1 hu with h'|hu
    · subst h';exact h.own _ List.mem_cons_self b' j (hx b' j hh)
    · rcases List.mem_cons.1 hu with h'|hu
      · subst h';exact h.own _ List.mem_cons_self b' j (hy b' j hh)
      · exact h.own u (List.mem_cons_of_mem _ hu) b' j hh
theorem sL {b o o':Nat} {cs xs ys:List Value} {sh:Option (TypeId × Nat)} (i:Nat) (hi:nthS i l=some ⟨b,o,cs,sh⟩) (hc:cs=xs++ys) (ho:o'=o+xs.length) {a:Act} {w:World} (h:At K ρ l r a w):At K ρ (⟨b,o,xs,none⟩::⟨b,o',ys,none⟩::l.eraseIdx i) r a w:=by
  have hp:l.Perm (⟨b,o,cs,sh⟩::l.eraseIdx i):=by
    have h1:=lU i ⟨b,o,cs,sh⟩ _ l hi;rwa [ku i _ l hi] at h1
  subst hc;exact(h.perm hp).split ho
theorem G.sL {c:Code} {b o o':Nat} {cs xs ys:List Value} {sh:Option (TypeId × Nat)} (i:Nat) (hi:nthS i l=some ⟨b,o,cs,sh⟩) (hc:cs=xs++ys) (ho:o'=o+xs.length) (h:G P K Q c ρ (⟨b,o,xs,none⟩::⟨b,o',ys,none⟩::l.eraseIdx i) r):G P K Q c ρ l r:=
  fun a w ha=>h a w (YtaphmhiddngdoaaGreatDoor.sL i hi hc ho ha)
theorem GQ.lists {e:Exit} {l':List aV} (hl:l=l') (h:GQ K Q e ρ l' r):GQ K Q e ρ l r:=hl▸h
theorem G.lists {c:Code} {l':List aV} (hl:l=l') (h:G P K Q c ρ l' r):G P K Q c ρ l r:=hl▸h
end
theorem rv {k:IntKind} {xs:List Nat} {n:Nat} (h:xs.length=n):((ae k xs).drop 0).take n=ae k xs:=by
  rw[List.drop_zero,List.take_of_length_le Oz]
end Go.Proofs.YtaphmhiddngdoaaGreatDoor
namespace Go.Proofs.YtaphmhiddngdoaaGreatDoor
open Go
section
variable {P:Program} {K:Kx} {Q:Exit→Act→World→Prop} {ρ:bx} {l r:List aV} {L rest:List Oper} {o:Oper}
theorem At.UU {a:Act} {w:World} {b o o':Nat} {xs ys:List Value} {sh:Option (TypeId × Nat)} (h:At K ρ (⟨b,o,xs++ys,sh⟩::l) r a w) (ho:o'=o+xs.length):At K ρ (⟨b,o,xs,sh⟩::⟨b,o',ys,none⟩::l) r a w:=by
  subst ho;have kQ:=h.st.hl _ List.mem_cons_self;have pc:=List.pairwise_cons.1 h.st.pw;have hx:∀b' j:Nat,(⟨b,o,xs,sh⟩:aV).has b' j→(⟨b,o,xs++ys,sh⟩:aV).has b' j:=fun b' j ⟨h1,h2,h3⟩=>⟨h1,h2,by simp at h3 ⊢;omega⟩
  have hy:∀b' j:Nat,(⟨b,o+xs.length,ys,none⟩:aV).has b' j→(⟨b,o,xs++ys,sh⟩:aV).has b' j:=fun b' j ⟨h1,h2,h3⟩=>⟨h1,by simp at h2 ⊢;omega,by simp at h2 h3 ⊢;omega⟩
  refine⟨h.size,h.defers,h.fr,h.keeps,⟨?_,h.st.hr,?_,?_⟩,?_⟩
  · intro u hu;rcases List.mem_cons.1 hu with h'|hu
    · subst h';refine⟨fun j v hj=>kQ.1 j v ?_,fun j hj=>kQ.2.1 j (by simp at hj ⊢;omega),fun x hx=>kQ.2.2 x hx⟩;have:j<xs.length:=(List.getElem?_eq_some_iff.1 hj).1;show(xs++ys)[j]? =_;rw[List.getElem?_append_left this];exact hj
    · rcases List.mem_cons.1 hu with h'|hu
      · subst h';refine⟨fun j v hj=>?_,fun j hj=>?_,fun x hx=>by cases hx⟩
        · have:=kQ.1 (xs.length+j) v (by
            show(xs++ys)[xs.length+j]? =_;rw[List.getElem?_append_right Om];simpa using hj)
          rw[←Nat.add_assoc] at this;exact this
        · have:=kQ.2.1 (xs.length+j) (by simp at hj ⊢;omega);rw[←Nat.add_assoc] at this;exact this
      · exact h.st.hl u (List.mem_cons_of_mem _ hu)
  · refine List.Pairwise.cons (fun u hu=>?_) (List.Pairwise.cons (fun u hu=>?_) pc.2)
    · rcases List.mem_cons.1 hu with h'|hu
      · subst h';intro b' j h1 h2;have a1:=h1.2.2;have a2:=h2.2.1;simp at a1 a2;omega
      · exact fun b' j h1 h2=>pc.1 u hu b' j (hx b' j h1) h2
    · exact fun b' j h1 h2=>pc.1 u hu b' j (hy b' j h1) h2
  · intro u hu t ht;rcases List.mem_cons.1 hu with h'|hu
    · subst h';exact fun b' j h1 h2=>h.st.lr _ List.mem_cons_self t ht b' j (hx b' j h1) h2
    · rcases List.mem_cons.1 hu with h'|hu
      · subst h';exact fun b' j h1 h2=>h.st.lr _ List.mem_cons_self t ht b' j (hy b' j h1) h2
      · exact h.st.lr u (List.mem_cons_of_mem _ hu) t ht
  · intro u hu b' j hh;rcases List.mem_cons.1 hu with h'|hu
    · subst h';exact h.own _ List.mem_cons_self b' j (hx b' j hh)
    · rcases List.mem_cons.1 hu with h'|hu
      · subst h';exact h.own _ List.mem_cons_self b' j (hy b' j hh)
      · exact h.own u (List.mem_cons_of_mem _ hu) b' j hh
theorem FJ {b o o':Nat} {cs xs ys:List Value} {sh:Option (TypeId × Nat)} (i:Nat) (hi:nthS i l=some ⟨b,o,cs,sh⟩) (hc:cs=xs++ys) (ho:o'=o+xs.length) {a:Act} {w:World} (h:At K ρ l r a w):At K ρ (⟨b,o,xs,sh⟩::⟨b,o',ys,none⟩::l.eraseIdx i) r a w:=by
  have hp:l.Perm (⟨b,o,cs,sh⟩::l.eraseIdx i):=by
    have h1:=lU i ⟨b,o,cs,sh⟩ _ l hi;rwa [ku i _ l hi] at h1
  subst hc;exact(h.perm hp).UU ho
theorem G.FJ {c:Code} {b o o':Nat} {cs xs ys:List Value} {sh:Option (TypeId × Nat)} (i:Nat) (hi:nthS i l=some ⟨b,o,cs,sh⟩) (hc:cs=xs++ys) (ho:o'=o+xs.length) (h:G P K Q c ρ (⟨b,o,xs,sh⟩::⟨b,o',ys,none⟩::l.eraseIdx i) r):G P K Q c ρ l r:=
  fun a w ha=>h a w (YtaphmhiddngdoaaGreatDoor.FJ i hi hc ho ha)
end
def S2 (P:Program) (e:Nat) (i:TypeInfo) (fl:Field):Bool:=decide (i.size=0∧P.cellsOf e≠0∧byteOfCell P P.depth e 0=some 0∧fl.offset<P.cellsOf e∧byteOfCell P P.depth e fl.offset=some fl.byteOffset)
def fieldOff0 (P:Program) (s f e:Nat):Option Nat:=
  match P.underlying s with
  |some (.struct fs)=>match fs[f]? with
    |some fl=>match P.info? fl.type with
      |some i=>match S2 P e i fl with
        |true=>some fl.offset
        |false=>none
      |none=>none
    |none=>none
  |_=>none
section
variable {P:Program} {ρ:bx} {l r:List aV} {o:Oper} {s f n:Nat} {x:Operand}
theorem ac9 {sg:aV} {e c:Nat} (i:Nat) (hs:nthS i l=some sg) (hsh:sg.sh=some (e,c)) (ho:o.op=.fieldAddr s x f) (hx:ev ρ x=some (.pointer (some ⟨sg.b,0,none⟩))) (hP:fieldOff0 P s f e=some n):rU P ρ l r o (.pointer (some ⟨sg.b,n,none⟩)):=fun ac w ha kt=>by
  have hw:=(kt.hl sg (fb _ _ _ hs)).2.2 _ hsh;unfold fieldOff0 at hP;cases hu:P.underlying s with
  |none=>simp[hu] at hP
  |some D=>
    cases D<;>simp[hu] at hP;rename_i fs;cases hf:fs[f]? with
    |none=>simp[hf] at hP
    |some fl=>
      simp only[hf] at hP;cases hi:P.info? fl.type with
      |none=>simp[hi] at hP
      |some i=>
        simp only[hi] at hP;cases hc:S2 P e i fl with
        |false=>simp[hc] at hP
        |true=>
          simp only[hc] at hP;obtain⟨h0,h1,h2,h3,h4⟩:=of_decide_eq_true hc;have hn:=Option.some.inj hP;subst hn;simp[execOp,ho,cq ha hx,Instr.fieldAt,bA hu,hf,Instr.sureAddr,fieldPlace,partAt,byteOf,noView,viewAt,sizeOf,jO hi,h0,h1,h2,h4,hw,Nat.mod_eq_of_lt h3,Nat.div_eq_of_lt h3]
end
theorem G9 {b o:Nat} {cs ds:List Value} {sh:Option (TypeId × Nat)} {n:Nat} {w:World} (h:(⟨b,o,cs,sh⟩:aV).tV w) (hd:cs.take n=ds):(⟨b,o,ds,none⟩:aV).tV w:=by
  subst hd;refine⟨fun j v hj=>h.1 j v ?_,fun j hj=>h.2.1 j ?_,fun x hx=>by cases hx⟩
  · have h1:(cs.take n)[j]? =some v:=hj;have eU:j<(cs.take n).length:=(List.getElem?_eq_some_iff.1 h1).1;rw[List.length_take] at eU;rwa [List.getElem?_take,if_pos Om] at h1
  · have:j<(cs.take n).length:=hj;rw[List.length_take] at this;show j<cs.length;omega
theorem bR.front {P:Program} {f:FuncId} {args:List Value} {l r:List aV} {fo:Value→List aV→Prop} {b o n:Nat} {cs ds:List Value} {sh:Option (TypeId × Nat)} (hd:cs.take n=ds) (h:bR P f args l (⟨b,o,ds,none⟩::r) fo):bR P f args l (⟨b,o,cs,sh⟩::r) fo:=by
  have oN:∀b' j:Nat,(⟨b,o,ds,none⟩:aV).has b' j→(⟨b,o,cs,sh⟩:aV).has b' j:=fun b' j ⟨h1,h2,h3⟩=>⟨h1,h2,by
    subst hd;have h4:j<o+(cs.take n).length:=h3;rw[List.length_take] at h4;show j<o+cs.length;omega⟩
  refine⟨h.can,fun w kt=>?_⟩;have akv:St l (⟨b,o,ds,none⟩::r) w:=⟨kt.hl,fun s hs=>by
    rcases List.mem_cons.1 hs with h'|h'
    · subst h';exact G9 (kt.hr _ List.mem_cons_self) hd
    · exact kt.hr s (List.mem_cons_of_mem _ h'),kt.pw,fun s hs t ht=>by
    rcases List.mem_cons.1 ht with h'|h'
    · subst h';exact fun b' j h1 h2=>kt.lr s hs _ List.mem_cons_self b' j h1 (oN b' j h2)
    · exact kt.lr s hs t (List.mem_cons_of_mem _ h')⟩
  refine(h.run w akv).mono fun e w' ⟨v,l',h1,h2,h3,h4,h5⟩=>⟨v,l',h1,h2,h3,⟨h4.hl,?_,h4.pw,?_⟩,h5⟩
  · intro s hs;exact(kt.hr s hs).PF h3 fun t ht=>kt.lr t ht s hs
  · intro s hs t ht;intro b' j h6 h7;rcases h5 s hs b' j h6 with ⟨u,hu,hu2⟩|zR
    · exact kt.lr u hu t ht b' j hu2 h7
    · have:=(kt.hr t ht).lt h7;omega
theorem bR.S3 {P:Program} {f:FuncId} {args:List Value} {l r:List aV} {s t:aV} {fo:Value→List aV→Prop} (h:bR P f args l (s::t::r) fo):bR P f args l (t::s::r) fo:=by
  have m:∀x,x ∈ s::t::r↔x ∈ t::s::r:=fun x=>by simp only[List.mem_cons];constructor<;>(rintro (h|h|h)<;>simp[h])
  refine⟨h.can,fun w kt=>?_⟩;refine(h.run w ⟨kt.hl,fun x hx=>kt.hr x ((m x).1 hx),kt.pw,fun x hx y hy=>kt.lr x hx y ((m y).1 hy)⟩).mono fun e w' ⟨v,l',h1,h2,h3,h4,h5⟩=>⟨v,l',h1,h2,h3,⟨h4.hl,fun x hx=>h4.hr x ((m x).2 hx),h4.pw,fun x hx y hy=>h4.lr x hx y ((m y).2 hy)⟩,h5⟩
section
variable {P:Program} {ρ:bx} {o:Oper} {x y:Operand} {ty cS:TypeId}
theorem wrap32 (w:Nat):(BitVec.ofInt 32 (IntKind.wrap .i32 ((w:Nat):Int))).toNat=w%2^32:=by
  rw[BitVec.toNat_ofInt];simp only[IntKind.wrap,IntKind.bits,IntKind.signed];simp;omega
theorem wQ {w m n:Nat} (ho:o.op=.binOp .and ty x y cS) (hx:ev ρ x=some (.int .i32 (IntKind.wrap .i32 ((w:Nat):Int)))) (hy:ev ρ y=some (.int .i32 ((m:Nat):Int))) (hm:m=2^n-1) (hn:n≤31):bJ P ρ o (.int .i32 ((w%2^n:Nat):Int)):=(uc ho hx hy).cast (by
  have hp:(2:Nat)^n≤2^31:=Nat.pow_le_pow_right Om hn;have hq:=Nat.pow_pos (n:=n) (show 0<2 by omega);have eU:=Nat.mod_lt w hq;have h2:(BitVec.ofInt 32 ((m:Nat):Int)).toNat=m:=gJ 32 m Om;rw[BitVec.toNat_and,show IntKind.bits .i32=32 from rfl,wrap32,h2,hm,Nat.and_two_pow_sub_one_eq_mod,Nat.mod_mod_of_dvd _ (Nat.pow_dvd_pow 2 Om)];rw[IntWalk.i32_in _ ⟨Om,Om⟩])
end
section
variable {P:Program} {K:Kx} {Q:Exit→Act→World→Prop} {ρ:bx} {l r:List aV} {L rest:List Oper} {o:Oper} {t:TypeId} {x:Operand}
theorem Ad {d n:Nat} {cs:List Value} (ho:o.op=.box t x) (hx:ev ρ x=some (.agg cs.toArray)) (hl:cs.length=n) (hd:o.dst=some d) (hn:Nat.blt d K.n=true):
    nN P K ρ l r o (fun ρ' l'=>∃b,ρ'=(d,.pointer (some ⟨b,0,none⟩))::ρ∧l'=⟨b,0,cs,some (t,n)⟩::l):=hl▸JT ho hx hd hn
end
section
variable {P:Program} {ρ:bx} {o:Oper} {x y z u:Operand} {t:TypeId} {k k' k'':IntKind} {b q len cap lo hi m sz:Nat}
theorem ada {q':Nat} (ho:o.op=.slice t x (some y) (some z) (some u)) (hx:ev ρ x=some (.slice (some ⟨b,q,none⟩) len cap)) (hy:ev ρ y=some (.int k (lo:Nat))) (hz:ev ρ z=some (.int k' (hi:Nat))) (hu':ev ρ u=some (.int k'' (m:Nat))) (hP:cx P t=some sz) (h:lo≤hi∧hi≤m∧m≤cap∧lo<m) (hq:q+lo*sz=q'):bJ P ρ o (.slice (some ⟨b,q',none⟩) (hi-lo) (m-lo)):=by
  subst hq;intro ac ha w;unfold cx at hP;cases hu:P.underlying t with
  |none=>simp[hu] at hP
  |some D=>
    cases D<;>simp[hu] at hP;simp[execOp,ho,cq ha hx,cq ha hy,cq ha hz,cq ha hu',Instr.sliceAt,bA hu,Instr.slice,Instr.sliceBounds,Instr.sliceBound,asIntOf,dj hP,h.1,h.2.1,h.2.2.1,eM,show¬m=lo by omega]
end
section
variable {P:Program} {K:Kx} {Q:Exit→Act→World→Prop} {ρ:bx} {l r:List aV} {L rest:List Oper} {o:Oper} {d:Nat}
end
end Go.Proofs.YtaphmhiddngdoaaGreatDoor
namespace Go.Proofs.YtaphmhiddngdoaaGreatDoor
theorem akw {b:List Nat} {n:Nat} (h:n=b.length):(([n]++b).drop 1).take (1+n-1)=b:=by
  subst h;simp
theorem jS.jR {xs A:List Nat} {k len i:Nat} {T:List Cell} {s:BR} (h:jS xs k len T A i s) (hb:Bytes xs) (ho:32≤s.rd→4≤s.off):jS xs k len T A i (s.jR xs k)∧(s.jR xs k).rd≤32∧s.off≤(s.jR xs k).off+4∧(s.jR xs k).off≤s.off:=by
  obtain⟨h1,h2⟩:=h.pos.jR hb ho;exact⟨⟨h1⟩,h2⟩
theorem jS.fG {xs A:List Nat} {k len i:Nat} {T:List Cell} {s:BR} (h:jS xs k len T A i s) (hb:Bytes xs):jS xs k len T A i (BR.fG xs k s)∧((BR.fG xs k s).rd≤32∨(BR.fG xs k s).off=0)∧(BR.fG xs k s).off≤s.off:=by
  obtain⟨h1,h2⟩:=h.pos.fG hb (fun _ _=>Om);exact⟨⟨h1⟩,h2⟩
theorem ur {W ys:List Nat} {j:Nat} (h:j+ys.length≤W.length):(cG W j ys).take (j+ys.length)=W.take j++ys:=by
  unfold cG;rw[List.take_append_of_le_length Oz,List.take_of_length_le Oz]
theorem J8 {text:List Nat} {i:Nat} (h:i+4≤text.length):text.take i++[text.getD i 0,text.getD (i+1) 0,text.getD (i+2) 0,text.getD (i+3) 0]=text.take (i+4):=by
  rw[cP (i:=i+3) Om,cP (i:=i+2) Om,cP (i:=i+1) Om,cP (i:=i) Om];simp
theorem lE {W text:List Nat} {i:Nat} (h:W.take i=text.take i) (hl:i+1≤W.length) (ht:i<text.length):(cG W i [text.getD i 0]).take (i+1)=text.take (i+1):=by
  have:=ur (W:=W) (ys:=[text.getD i 0]) (j:=i) (by simpa using hl);rw[show i+[text.getD i 0].length=i+1 from rfl] at this;rw[this,h,cP ht]
theorem iM {W text:List Nat} {i:Nat} (h:W.take i=text.take i) (hl:i+2≤W.length) (ht:text.length=i+2):(cG W i [text.getD i 0,text.getD (i+1) 0]).take text.length=text:=by
  have:=ur (W:=W) (ys:=[text.getD i 0,text.getD (i+1) 0]) (j:=i) (by simpa using hl);rw[show i+[text.getD i 0,text.getD (i+1) 0].length=i+2 from rfl] at this;rw[ht,this,h];have h2:=cP (xs:=text) (i:=i+1) Om;rw[cP (i:=i) Om,List.take_of_length_le Om] at h2;rw[List.append_assoc] at h2;exact h2.symm
theorem adb {W M text:List Nat} {i:Nat} (h:M.take i=text.take i) (hl:i≤W.length) (hM:i≤M.length):(cG W 0 (M.take i)).take i=text.take i:=by
  have:=ur (W:=W) (ys:=M.take i) (j:=0) (by rw[List.length_take];omega);rw[Nat.zero_add,List.length_take,Nat.min_eq_left hM] at this;rw[this,h];simp
theorem DM (n:Nat):n&&&63=n%64:=Nat.and_two_pow_sub_one_eq_mod n 6
def wR (P C S:List Nat) (u:Nat):Prop:=∀x,x<P.length→S.getD x 0=P.getD x 0+(C.take u).count x
theorem wR.step {P C S:List Nat} {u s:Nat} (h:wR P C S u) (hu:u<C.length) (hs:C.getD u 0=s) (hS:P.length≤S.length) (mw:s<P.length):wR P C (S.set s (S.getD s 0+1)) (u+1):=fun x hx=>by
  rw[cP hu,hs,List.count_append];by_cases e:x=s
  · subst e;rw[List.count_singleton_self,jT Om,if_pos rfl,h x hx];omega
  · rw[List.count_singleton];have:(s==x)=false:=by simp;omega
    rw[fX e,h x hx];simp[this]
theorem BH {X c m N:Nat} (h:c+m≤N):X/2^c%2^m=X%2^N/2^c%2^m:=by
  have e:(2:Nat)^N=2^c*2^(N-c):=by rw[←Nat.pow_add];congr 1;omega
  rw[e,Nat.mod_mul_right_div_self];exact(Nat.mod_mod_of_dvd _ (Nat.pow_dvd_pow 2 Om)).symm
theorem J9 {xs:List Nat} (hb:Bytes xs) {k len off c m:Nat} (ho:off+4≤len) (hm:c+m≤32):dR xs (k+off)/2^c%2^m=tailV xs k len/2^(8*off+c)%2^m:=by
  have h1:=ky xs k off (len-off);rw[show off+(len-off)=len by omega] at h1;have h2:tailV xs k len/2^(8*off)=tailV xs (k+off) (len-off):=by
    rw[h1,Nat.add_mul_div_right _ _ (Nat.pow_pos Om),Nat.div_eq_of_lt (gp hb k off),Nat.zero_add]
  rw[Nat.pow_add, ←Nat.div_div_eq_div_mul,h2,BH (N:=32) (X:=tailV xs (k+off) (len-off)) hm];have h3:=uh hb (k+off) (m:=4) (n:=len-off) Om;rw[show 8*4=32 from rfl] at h3;have h4:dR xs (k+off)=tailV xs (k+off) 4:=by rw[wv hb];simp only[tailV];simp
  rw[h3,h4]
theorem n8 {a b m n:Nat} (h:m≤n) (e:a%2^n=b):a%2^m=b%2^m:=by
  rw[←e];exact(Nat.mod_mod_of_dvd _ (Nat.pow_dvd_pow 2 h)).symm
theorem qb.win {xs ys bs:List Nat} {k len p off c m:Nat} (hL:qb ys len p bs) (hb:Bytes xs) (he:tailV xs k len=tailV ys 0 len) (ho:off+4≤len) (hp:8*off+c=p) (hm:c+m≤32) (J':m≤bs.length):dR xs (k+off)/2^c%2^m=lowV bs%2^m:=by
  rw[J9 hb ho hm,hp,he];exact n8 J' hL.2
theorem DN {a b:List Nat} (ha:jt a):lowV (a++b)%2^a.length=lowV a:=by
  rw[gD,Nat.add_mul_mod_self_left,Nat.mod_eq_of_lt (vI ha)]
theorem qb.front {xs ys a bs:List Nat} {k len p off c:Nat} (hL:qb ys len p (a++bs)) (ha:jt a) (hb:Bytes xs) (he:tailV xs k len=tailV ys 0 len) (ho:off+4≤len) (hp:8*off+c=p) (hm:c+a.length≤32):dR xs (k+off)/2^c%2^a.length=lowV a:=by
  rw[hL.win hb he ho hp hm Oi,DN ha]
theorem Ka {w cl v:Nat} (h:w%2^(fp cl v).length=lowV (fp cl v)) (hv:v≤cl) (h0:0<cl):
    (w%2^(aj cl-1)<2^aj cl-1-cl∧w%2^(aj cl-1)=v∧(fp cl v).length=aj cl-1)∨
      (2^aj cl-1-cl≤w%2^(aj cl-1)∧(fp cl v).length=aj cl∧((2^(aj cl-1)≤w%2^aj cl∧w%2^aj cl=v+(2^aj cl-1-cl))∨(w%2^aj cl<2^(aj cl-1)∧w%2^aj cl=v))):=by
  obtain⟨k,hk⟩:∃k,aj cl=k+1:=⟨aj cl-1,by have:=dk h0;omega⟩;have wP:=n3 h0;have yl:=gM cl;have hp:(2:Nat)^(k+1)=2^k*2:=Nat.pow_succ ..;by_cases h1:v<2^aj cl-1-cl
  · have e:fp cl v=eF v (aj cl-1):=if_pos h1;rw[e,bl,gq] at h;rw[hk,Nat.add_sub_cancel] at wP h ⊢;rw[hk] at yl h1;rw[Nat.mod_eq_of_lt (show v<2^k by omega)] at h;exact .inl ⟨Om,h,by rw[e,bl,hk,Nat.add_sub_cancel]⟩
  · by_cases h2:v<2^(aj cl-1)
    · have e:fp cl v=eF v (aj cl):=by unfold fp;rw[if_neg h1,if_pos h2]
      rw[e,bl,gq] at h;have h3:=n8 (show k≤aj cl by omega) h;rw[hk] at yl h1 h h3;rw[hk,Nat.add_sub_cancel] at wP h2 ⊢;rw[Nat.mod_eq_of_lt (show v<2^(k+1) by omega)] at h h3;rw[Nat.mod_eq_of_lt h2] at h3;exact .inr ⟨Om,by rw[e,bl,hk],.inr ⟨Om,h⟩⟩
    · have e:fp cl v=eF (v+(2^aj cl-1-cl)) (aj cl):=by unfold fp;rw[if_neg h1,if_neg h2]
      rw[e,bl,gq] at h;have h3:=n8 (show k≤aj cl by omega) h;rw[hk] at yl h1 h h3;rw[hk,Nat.add_sub_cancel] at wP h2 ⊢;have eU:v+(2^(k+1)-1-cl)<2^(k+1):=Om;rw[Nat.mod_eq_of_lt eU] at h h3;have h4:(v+(2^(k+1)-1-cl))%2^k=v+(2^(k+1)-1-cl)-2^k:=by
        rw[Nat.mod_eq_sub_mod (show v+(2^(k+1)-1-cl)≥2^k by omega),Nat.mod_eq_of_lt Om]
      rw[h4] at h3;exact .inr ⟨Om,by rw[e,bl,hk],.inl ⟨Om,h⟩⟩
theorem lV {cl v:Nat}:aj cl-1≤(fp cl v).length∧(fp cl v).length≤aj cl:=by
  unfold fp;split
  · rw[bl];omega
  · split<;>rw[bl]<;>omega
theorem Qu {w z:Nat} (h:w%2^(bN z).length=lowV (bN z)):(3≤z∧w%4=3∧w/4%2^(bN (z-3)).length=lowV (bN (z-3))∧(bN z).length=2+(bN (z-3)).length)∨(z<3∧w%4=z∧(bN z).length=2):=by
  by_cases h3:3≤z
  · have e:=u3 h3;have hl:(bN z).length=2+(bN (z-3)).length:=by rw[e,List.length_append,bl]
    rw[hl,e,gD,gq,bl,Nat.pow_add] at h;have h1:=congrArg (· %2^2) h;have h2:=congrArg (· /2^2) h;simp only[Nat.mod_mul_right_mod,Nat.mod_mul_right_div_self] at h1 h2;exact .inl ⟨h3,Om,by rw[show(4:Nat)=2^2 from rfl,h2];omega,hl⟩
  · have e:=wO (show z<3 by omega);rw[e,bl,gq] at h;exact .inr ⟨Om,Om,by rw[e,bl]⟩
theorem qd:∀z,(bN z).length=2*(z/3)+2
  |0=>rfl
  |1=>rfl
  |2=>rfl
  |m+3=>by
    show(eF 3 2++bN m).length=_;rw[List.length_append,bl,qd m];omega
theorem BI:∀z,lowV (bN z)+1<2^(bN z).length
  |0=>by decide
  |1=>by decide
  |2=>by decide
  |m+3=>by
    show lowV (eF 3 2++bN m)+1<2^(eF 3 2++bN m).length;have:=BI m;rw[List.length_append,gD,gq,bl,Nat.pow_add];omega
theorem UW:∀n,n≤16→65535%2^n+1=2^n:=by decide
theorem Ha {w z:Nat} (h:w%2^(bN z).length=lowV (bN z)) (hz:z≤20):w%65536≠65535:=fun e=>by
  have hl:=qd z;have h1:=n8 (show(bN z).length≤16 by omega) (show w%2^16=65535 from e);rw[h] at h1;have h2:=BI z;have h3:=UW (bN z).length Om;omega
theorem jU {n k:Nat} (h1:2^(k-1)≤n) (h2:n<2^k) (hk:1≤k):aj n=k:=by
  have a:=cW h2;have b:=gM n;have c:k-1<aj n:=(Nat.pow_lt_pow_iff_right Om).1 (Nat.lt_of_le_of_lt h1 b);omega
def br (L n c:Nat):Nat:=if n=1 then L else if n*2^(L-(aj (n-1)-1))≤c then L-(aj (n-1)-1) else L-(aj (n-1)-1)-1
theorem ze {n:Nat} (h:0<n):∃k,aj n=k+1∧2^k≤n∧n<2^(k+1):=by
  have h1:=dk h;have h2:=n3 h;have h3:=gM n;exact⟨aj n-1,Om,h2,by rwa [show aj n-1+1=aj n by omega]⟩
theorem lW {L n c:Nat} (h1:1≤n) (hn:n≤2^L) (hc:2^L≤c∧c<2^(L+1)):br L n c≤L∧n≤c/2^br L n c∧c/2^br L n c<2*n:=by
  unfold br;by_cases e:n=1
  · rw[if_pos e];subst e;have hp:0<2^L:=Nat.two_pow_pos _;refine⟨Nat.le_refl _,?_,?_⟩
    · exact(Nat.le_div_iff_mul_le hp).2 Om
    · exact(Nat.div_lt_iff_lt_mul hp).2 (by rw[Nat.pow_succ] at hc;omega)
  · rw[if_neg e];obtain⟨k,hk,k1,k2⟩:=ze (n:=n-1) Om;rw[hk,Nat.add_sub_cancel];have hkL:k<L:=by
      apply Classical.byContradiction;intro zR;have:2^L≤2^k:=Nat.pow_le_pow_right Om Om;omega
    have e1:2^(L+1)=2^(k+1)*2^(L-k):=by rw[←Nat.pow_add];congr 1;omega
    have e2:2^L=2^(k+1)*2^(L-k-1):=by rw[←Nat.pow_add];congr 1;omega
    have e3:2^(L-k)=2*2^(L-k-1):=by
      have:2^(L-k-1+1)=2^(L-k-1)*2:=Nat.pow_succ _ _;rw[show L-k-1+1=L-k by omega] at this;omega
    have e4:2^(k+1)=2*2^k:=by rw[Nat.pow_succ];omega
    split
    · rename_i zR;have hp:0<2^(L-k):=Nat.two_pow_pos _;refine⟨Om,(Nat.le_div_iff_mul_le hp).2 zR,(Nat.div_lt_iff_lt_mul hp).2 ?_⟩;have:2^(k+1)*2^(L-k)≤2*n*2^(L-k):=Nat.mul_le_mul_right _ Om;omega
    · rename_i eU;have hp:0<2^(L-k-1):=Nat.two_pow_pos _;refine⟨Om,(Nat.le_div_iff_mul_le hp).2 ?_,(Nat.div_lt_iff_lt_mul hp).2 ?_⟩
      · have:n*2^(L-k-1)≤2^(k+1)*2^(L-k-1):=Nat.mul_le_mul_right _ Om;omega
      · have e5:n*2^(L-k)=2*n*2^(L-k-1):=by rw[e3, ←Nat.mul_assoc,Nat.mul_comm n 2]
        omega
theorem Kb {L n c:Nat} (h1:1≤n) (hn:n≤2^L) (hc:2^L≤c∧c<2^(L+1)):
    L-(aj (c/2^br L n c)-1)=br L n c∧(c/2^br L n c)*2^br L n c-2^L+c%2^br L n c=c-2^L∧2^L≤(c/2^br L n c)*2^br L n c:=by
  obtain⟨hl,ha,hb⟩:=lW h1 hn hc;generalize br L n c=b at*;have hp:0<2^b:=Nat.two_pow_pos _;have e1:2^L=2^(L-b)*2^b:=by rw[←Nat.pow_add];congr 1;omega
  have e2:2^(L+1)=2^(L-b+1)*2^b:=by rw[←Nat.pow_add];congr 1;omega
  have h3:2^(L-b)≤c/2^b:=(Nat.le_div_iff_mul_le hp).2 Om;have h4:c/2^b<2^(L-b+1):=(Nat.div_lt_iff_lt_mul hp).2 Om;have h5:aj (c/2^b)=L-b+1:=jU (by simpa using h3) h4 Om;have h6:2^L≤(c/2^b)*2^b:=by rw[e1];exact Nat.mul_le_mul_right _ h3
  have h7:=Nat.div_add_mod c (2^b);rw[Nat.mul_comm] at h7;refine⟨by rw[h5];omega,Om,h6⟩
def kB (L n:Nat):Nat:=if n=1 then L*65536-2^L else (L-(aj (n-1)-1))*65536-n*2^(L-(aj (n-1)-1))
theorem Ae {L n:Nat} (DO:n≠1) (h1:1≤n) (hn:n≤2^L):1≤L-(aj (n-1)-1)∧L-(aj (n-1)-1)≤L∧n*2^(L-(aj (n-1)-1))≤2^(L+1):=by
  obtain⟨k,hk,k1,k2⟩:=ze (n:=n-1) Om;rw[hk,Nat.add_sub_cancel];have hkL:k<L:=by
    apply Classical.byContradiction;intro zR;have:2^L≤2^k:=Nat.pow_le_pow_right Om Om;omega
  have e1:2^(L+1)=2^(k+1)*2^(L-k):=by rw[←Nat.pow_add];congr 1;omega
  refine⟨Om,Om,?_⟩;rw[e1];exact Nat.mul_le_mul_right _ Om
theorem Kc {L n c:Nat} (hL:1≤L∧L≤12) (h1:1≤n) (hn:n≤2^L) (hc:2^L≤c∧c<2^(L+1)):(c+kB L n)/65536=br L n c:=by
  have DP:2^(L+1)≤2^13:=Nat.pow_le_pow_right Om Om;have yr:2^L≤2^12:=Nat.pow_le_pow_right Om Om;unfold kB br;by_cases e:n=1
  · rw[if_pos e,if_pos e];omega
  · rw[if_neg e,if_neg e];obtain⟨m1,m2,m3⟩:=Ae e h1 hn;generalize L-(aj (n-1)-1)=m at*;generalize n*2^m=q at*;split<;>omega
theorem Hb {L n:Nat} (hL:1≤L∧L≤12) (h1:1≤n) (hn:n≤2^L):(((kB L n+32768)/65536)*65536-kB L n)/2^((kB L n+32768)/65536)=n∧kB L n≤((kB L n+32768)/65536)*65536:=by
  have DP:2^(L+1)≤2^13:=Nat.pow_le_pow_right Om Om;have yr:2^L≤2^12:=Nat.pow_le_pow_right Om Om;unfold kB;by_cases e:n=1
  · rw[if_pos e,e];have e1:(L*65536-2^L+32768)/65536=L:=Om;rw[e1,show L*65536-(L*65536-2^L)=2^L by omega];exact⟨Nat.div_self (Nat.two_pow_pos _),Om⟩
  · rw[if_neg e];obtain⟨m1,m2,m3⟩:=Ae e h1 hn;generalize L-(aj (n-1)-1)=m at*;have e1:(m*65536-n*2^m+32768)/65536=m:=Om;rw[e1,show m*65536-(m*65536-n*2^m)=n*2^m by omega];exact⟨Nat.mul_div_cancel _ (Nat.two_pow_pos _),Om⟩
def mP (size m:Nat):List Nat:=((List.range size).map fun j=>j*fq size%size).filter fun p=>decide (p+m<size)
def kC (size m:Nat):List Nat:=mP size m++(List.range m).map fun i=>size-1-i
def goM (size m:Nat):Nat→Nat→Nat
  |0,p=>p
  |f+1,p=>if p+m<size then p else goM size m f ((p+fq size)%size)
def stM (size m:Nat):Nat→Nat→Nat
  |0,_=>0
  |f+1,p=>if p+m<size then 0 else stM size m f ((p+fq size)%size)+1
theorem zf:∀m,m<14→(kC 32 m).Perm (List.range 32)∧(kC 64 m).Perm (List.range 64):=by decide+kernel
theorem zg:∀m,m<14→((List.range 32).map fun u=>(kC 32 m).idxOf u).Perm (List.range 32)∧((List.range 64).map fun u=>(kC 64 m).idxOf u).Perm (List.range 64):=by decide+kernel
theorem sM:∀m,m<14→((mP 32 m).length=32-m∧(mP 32 m).getD 0 0=0)∧(mP 64 m).length=64-m∧(mP 64 m).getD 0 0=0:=by decide+kernel
theorem UX:∀m,m<14→∀p,p<32→¬p+m<32→goM 32 m 32 p=goM 32 m 32 ((p+23)%32)∧stM 32 m 32 ((p+23)%32)<stM 32 m 32 p:=by decide+kernel
theorem UY:∀m,m<14→∀p,p<64→¬p+m<64→goM 64 m 64 p=goM 64 m 64 ((p+43)%64)∧stM 64 m 64 ((p+43)%64)<stM 64 m 64 p:=by decide+kernel
theorem Ke:∀m,m<14→∀i,i<32-m→goM 32 m 32 (((mP 32 m).getD i 0+23)%32)=(mP 32 m).getD ((i+1)%(32-m)) 0:=by decide+kernel
theorem Kf:∀m,m<14→∀i,i<64-m→goM 64 m 64 (((mP 64 m).getD i 0+43)%64)=(mP 64 m).getD ((i+1)%(64-m)) 0:=by decide+kernel
def po (size m:Nat):Prop:=(size=32∨size=64)∧m<14
section
variable {size m:Nat}
theorem po.perm (h:po size m):(kC size m).Perm (List.range size):=by
  rcases h with ⟨rfl|rfl,hm⟩
  · exact(zf m hm).1
  · exact(zf m hm).2
theorem po.ade (h:po size m):((List.range size).map fun u=>(kC size m).idxOf u).Perm (List.range size):=by
  rcases h with ⟨rfl|rfl,hm⟩
  · exact(zg m hm).1
  · exact(zg m hm).2
theorem po.len (h:po size m):(mP size m).length=size-m:=by
  rcases h with ⟨rfl|rfl,hm⟩
  · exact(sM m hm).1.1
  · exact(sM m hm).2.1
theorem po.first (h:po size m):(mP size m).getD 0 0=0:=by
  rcases h with ⟨rfl|rfl,hm⟩
  · exact(sM m hm).1.2
  · exact(sM m hm).2.2
theorem po.le (h:po size m):m<14∧32≤size∧size≤64:=by
  rcases h with ⟨rfl|rfl,hm⟩<;>omega
theorem Kg (h:po size m) {p:Nat} (hp:p+m<size):goM size m size p=p:=by
  rcases h with ⟨rfl|rfl,hm⟩
  · simp only[goM,if_pos hp]
  · simp only[goM,if_pos hp]
theorem Kh (h:po size m) {p:Nat} (hp:p<size) (hn:¬p+m<size):goM size m size p=goM size m size ((p+fq size)%size)∧stM size m size ((p+fq size)%size)<stM size m size p:=by
  rcases h with ⟨rfl|rfl,hm⟩
  · exact UX m hm p hp hn
  · exact UY m hm p hp hn
theorem adf (h:po size m) {i:Nat} (hi:i<size-m):goM size m size (((mP size m).getD i 0+fq size)%size)=(mP size m).getD ((i+1)%(size-m)) 0:=by
  rcases h with ⟨rfl|rfl,hm⟩
  · exact Ke m hm i hi
  · exact Kf m hm i hi
theorem po.UZ (h:po size m):(kC size m).length=size:=by have:=h.perm.length_eq;simpa using this
theorem po.nodup (h:po size m):(kC size m).Nodup:=h.perm.nodup_iff.2 List.nodup_range
theorem po.inj (h:po size m) {i j:Nat} (hi:i<size) (hj:j<size) (he:(kC size m).getD i 0=(kC size m).getD j 0):i=j:=by
  have h1:i<(kC size m).length:=by rw[h.UZ];exact hi
  have h2:j<(kC size m).length:=by rw[h.UZ];exact hj
  simp only[List.getD_eq_getElem?_getD,List.getElem?_eq_getElem h1,List.getElem?_eq_getElem h2,Option.getD_some] at he;have hp:=List.pairwise_iff_getElem.1 h.nodup;rcases Nat.lt_trichotomy i j with h3|h3|h3
  · exact absurd he (hp i j h1 h2 h3)
  · exact h3
  · exact absurd he.symm (hp j i h2 h1 h3)
theorem po.met (h:po size m) {u:Nat} (hu:u<size):(kC size m).idxOf u<size∧(kC size m).getD ((kC size m).idxOf u) 0=u:=by
  have hm:u ∈ kC size m:=h.perm.mem_iff.2 (List.mem_range.2 hu);have h1:=List.idxOf_lt_length_iff.2 hm;refine⟨by rwa [h.UZ] at h1,?_⟩;simp[List.getD_eq_getElem?_getD,List.getElem?_eq_getElem h1]
theorem po.seq (h:po size m) {i:Nat} (hi:i<size-m):(kC size m).getD i 0=(mP size m).getD i 0:=by
  have:i<(mP size m).length:=by rw[h.len];exact hi
  simp only[kC,List.getD_eq_getElem?_getD,List.getElem?_append_left this]
theorem po.back (h:po size m) {i:Nat} (hi:i<m):(kC size m).getD (size-m+i) 0=size-1-i:=by
  have hl:=h.len;have hle:=h.le;simp only[kC,List.getD_eq_getElem?_getD];rw[List.getElem?_append_right Om,hl,show size-m+i-(size-m)=i by omega];simp[hi]
def pq (size m:Nat) (all:List Nat):List Nat:=(List.range size).map fun u=>all.getD ((kC size m).idxOf u) 0
theorem yt (all:List Nat):(pq size m all).length=size:=by simp[pq]
theorem DQ {all:List Nat} {u:Nat} (hu:u<size):(pq size m all).getD u 0=all.getD ((kC size m).idxOf u) 0:=by simp[pq,List.getD_eq_getElem?_getD,hu]
theorem Af (h:po size m) {all:List Nat} (ha:all.length=size) (x:Nat):(pq size m all).count x=all.count x:=by
  have e1:all=(List.range size).map fun j=>all.getD j 0:=by
    apply List.ext_getElem (by simp[ha]);intro i h1 h2;simp[List.getD_eq_getElem?_getD,h1]
  have e2:pq size m all=((List.range size).map fun u=>(kC size m).idxOf u).map fun j=>all.getD j 0:=by rw[pq,List.map_map];rfl
  conv=>rhs;rw[e1]
  rw[e2];exact(h.ade.map _).count_eq x
end
def ng (cs:List Int):List Nat:=flatC 0 (cs.map Int.toNat)
def bQ (cs:List Int):List Nat:=flatC 0 (cs.map fun n=>(-n).toNat)
def aU (cs:List Int):List Nat:=cs.map Int.natAbs
structure cb (log:Nat) (cs:List Int):Prop where
  lg:log=5∨log=6
  sum:(aU cs).sum=2^log
  len:cs.length≤13
  ge:∀c ∈ cs, -1≤c
  lt:∀c ∈ cs,c<2^log
def dm (log:Nat) (cs:List Int):List Nat:=pq (2^log) (bQ cs).length (ng cs++bQ cs)
def dY (log:Nat) (cs:List Int):List Cell:=buildD log (dm log cs) (aU cs)
theorem zh:∀cs:List Int,(aU cs).sum=(cs.map Int.toNat).sum+(cs.map fun n=>(-n).toNat).sum
  |[]=>rfl
  |n::cs=>by
    have:=zh cs;simp only[aU,List.map_cons,List.sum_cons] at this ⊢;omega
theorem FK:∀cs:List Int,(∀c ∈ cs, -1≤c)→(cs.map fun n=>(-n).toNat).sum≤cs.length
  |[],_=>Nat.le_refl _
  |n::cs,h=>by
    have:=FK cs fun c hc=>h c (List.mem_cons_of_mem _ hc)
    have h1:=h n List.mem_cons_self;simp only[List.map_cons,List.sum_cons,List.length_cons];omega
section
variable {log:Nat} {cs:List Int}
theorem lF (cs:List Int):(bQ cs).length=(cs.map fun n=>(-n).toNat).sum:=ui _ _
theorem n9 (cs:List Int):(ng cs).length=(cs.map Int.toNat).sum:=ui _ _
theorem cb.size (h:cb log cs):2^log=32∨2^log=64:=by rcases h.lg with h|h<;>subst h<;>simp
theorem cb.sz (h:cb log cs):po (2^log) (bQ cs).length:=by
  refine⟨h.size,?_⟩;have:=FK cs h.ge;have:=h.len;rw[lF];omega
theorem cb.all (h:cb log cs):(ng cs).length=2^log-(bQ cs).length∧(ng cs++bQ cs).length=2^log:=by
  have h1:=zh cs;have h2:=h.sum;rw[List.length_append,n9,lF];omega
theorem dE:(dm log cs).length=2^log:=yt _
theorem ia {f:Int→Nat} (h0:f 0=0) (cs:List Int) (i:Nat):(cs.map f).getD i 0=f (cs.getD i 0):=by
  simp only[List.getD_eq_getElem?_getD,List.getElem?_map];cases cs[i]? <;>simp[h0]
theorem sN (h:cb log cs) (x:Nat):(dm log cs).count x=(aU cs).getD x 0:=by
  rw[dm,Af h.sz h.all.2,List.count_append,ng,bQ,ph,ph,if_pos (Nat.zero_le _),if_pos (Nat.zero_le _),Nat.sub_zero,aU,ia rfl,ia rfl,ia rfl];omega
theorem kI:(dY log cs).length=2^log:=by rw[dY,qL,dE]
end
theorem DR {log:Nat} {C ns:List Nat} (hC:C.length=2^log) (qw:∀x,C.count x=ns.getD x 0) (hle:∀c ∈ ns,c<2^log) (Pc:1≤log) {u:Nat} (hu:u<2^log):
    ∃s k,(buildD log C ns).getD u (0,0,0)=BD log s k∧s=C.getD u 0∧s<ns.length∧k=ns.getD s 0+(C.take u).count s∧1≤k∧k<2*2^log∧k+1≤2*ns.getD s 0∧log-(aj k-1)≤log∧2^log≤k*2^(log-(aj k-1))∧k*2^(log-(aj k-1))-2^log+2^(log-(aj k-1))≤2^log:=by
  have Bp:∀s ∈ C,s<ns.length:=fun s hs=>by
    have h1:0<C.count s:=List.count_pos_iff.2 hs;rw[qw] at h1;apply Classical.byContradiction;intro hn;rw[List.getD_eq_getElem?_getD,List.getElem?_eq_none Om] at h1;simp at h1
  have hs:u<C.length:=by rw[hC];exact hu
  have hg:C.getD u 0=C[u]:=by simp[hs]
  have eU:C.getD u 0<ns.length:=by rw[hg];exact Bp _ (List.getElem_mem hs)
  refine⟨_,_,rr log _ ns u hs Bp,rfl,eU,rfl,?_⟩;have hc:(C.take u).count (C.getD u 0)+1≤ns.getD (C.getD u 0) 0:=by
    rw[←qw];have h1:(C.take (u+1)).count C[u]=(C.take u).count C[u]+1:=by rw[List.take_succ_eq_append_getElem hs,List.count_append,List.count_singleton_self]
    rw[hg, ←h1];exact(List.take_sublist _ _).count_le _
  generalize hs':C.getD u 0=s at*;generalize (C.take u).count s=q at*;have adg:=hle (ns.getD s 0) (by simp[List.getD_eq_getElem?_getD,eU]);generalize ns.getD s 0=n at*;have wP:1≤n+q:=Om;have yl:n+q<2^(log+1):=by rw[Nat.pow_succ];omega
  have Ab:n+q+1≤2*n:=Om;have yu:=dk (show 0<n+q by omega);have ry:=n3 (show 0<n+q by omega);have x':=gM (n+q);have S4:=cW yl;generalize aj (n+q)=b at*;generalize n+q=k at*;have e1:(2:Nat)^log=2^(b-1)*2^(log-(b-1)):=by rw[←Nat.pow_add];congr 1;omega
  have e2:2*(2:Nat)^log=2^b*2^(log-(b-1)):=by
    rw[←Nat.pow_add,show b+(log-(b-1))=log+1 by omega,Nat.pow_succ,Nat.mul_comm]
  have h3:2^log≤k*2^(log-(b-1)):=by rw[e1];exact Nat.mul_le_mul_right _ ry
  have h4:(k+1)*2^(log-(b-1))≤2*2^log:=by rw[e2];exact Nat.mul_le_mul_right _ x'
  rw[Nat.add_mul,Nat.one_mul] at h4;refine⟨wP,by rw[Nat.pow_succ] at yl;omega,Ab,Om,h3,Om⟩
theorem cb.DS {log:Nat} {cs:List Int} (h:cb log cs):∀c ∈ aU cs,c<2^log:=fun c hc=>by
  obtain⟨x,hx,rfl⟩:=List.mem_map.1 hc;have h1:=h.ge x hx;have h2:=h.lt x hx;have h3:=h.size;have e:((2:Int)^log)=((2^log:Nat):Int):=Oi;rw[e] at h2;omega
theorem lX {log:Nat} {cs:List Int} (h:cb log cs) {u:Nat} (hu:u<2^log):
    ∃s k,(dY log cs).getD u (0,0,0)=BD log s k∧s=(dm log cs).getD u 0∧s<cs.length∧k=(aU cs).getD s 0+((dm log cs).take u).count s∧1≤k∧k<2*2^log∧k+1≤2*(aU cs).getD s 0∧log-(aj k-1)≤log∧2^log≤k*2^(log-(aj k-1))∧k*2^(log-(aj k-1))-2^log+2^(log-(aj k-1))≤2^log:=by
  have:=DR dE (sN h) h.DS (by rcases h.lg with h|h<;>omega) hu;rw[show(aU cs).length=cs.length by simp[aU]] at this;exact this
def occC:List Nat→Nat→Nat→Nat
  |[],_,_=>0
  |x::t,s,j=>if x=s then (if j=0 then 0 else occC t s (j-1)+1) else occC t s j+1
theorem vJ:∀(C:List Nat) (s j:Nat),j<C.count s→occC C s j<C.length∧C.getD (occC C s j) 0=s∧(C.take (occC C s j)).count s=j
  |[],s,j,h=>by simp at h
  |x::t,s,j,h=>by
    unfold occC;rw[List.count_cons] at h;by_cases e:x=s
    · rw[if_pos e];by_cases e2:j=0
      · rw[if_pos e2];subst e2;simp[e]
      · rw[if_neg e2];rw[if_pos (by simpa using e)] at h;obtain⟨h1,h2,h3⟩:=vJ t s (j-1) Om;refine⟨by simp only[List.length_cons];omega,by rw[List.getD_cons_succ];exact h2,?_⟩;rw[List.take_succ_cons,List.count_cons,if_pos (by simpa using e),h3];omega
    · rw[if_neg e];rw[if_neg (by simpa using e)] at h;obtain⟨h1,h2,h3⟩:=vJ t s j Om;refine⟨by simp only[List.length_cons];omega,by rw[List.getD_cons_succ];exact h2,?_⟩;rw[List.take_succ_cons,List.count_cons,if_neg (by simpa using e),h3];omega
theorem Ag:∀(C:List Nat) (u:Nat),u<C.length→occC C (C.getD u 0) ((C.take u).count (C.getD u 0))=u
  |[],u,h=>by simp at h
  |x::t,0,h=>by simp[occC]
  |x::t,u+1,h=>by
    have hu:u<t.length:=by simpa using h
    have ih:=Ag t u hu;rw[List.getD_cons_succ,List.take_succ_cons,List.count_cons];unfold occC;by_cases e:x=t.getD u 0
    · have hx:(x==t.getD u 0)=true:=by simpa using e
      rw[if_pos e,hx];simp only[if_true];rw[if_neg (Nat.succ_ne_zero _),Nat.add_sub_cancel,ih]
    · have hx:(x==t.getD u 0)=false:=by simpa using e
      rw[if_neg e,hx];show occC t (t.getD u 0) (List.count (t.getD u 0) (List.take u t))+1=u+1;rw[ih]
def BJ (L:Nat) (C ns:List Nat) (s c:Nat):Nat:=occC C s ((c+2^L)/2^br L (ns.getD s 0) (c+2^L)-ns.getD s 0)
def encA (L:Nat) (C ns:List Nat):List Nat→List Nat
  |[]=>[]
  |s::t=>(if (encA L C ns t).length<2 then occC C s 0 else BJ L C ns s ((encA L C ns t).getD 1 0))::encA L C ns t
theorem gE (L:Nat) (C ns:List Nat):∀t:List Nat,(encA L C ns t).length=t.length
  |[]=>rfl
  |s::t=>by simp[encA,gE L C ns t]
structure jq (L:Nat) (C ns:List Nat):Prop where
  lg:1≤L∧L≤12
  len:C.length=2^L
  U0:∀x,C.count x=ns.getD x 0
  lt:∀c ∈ ns,c<2^L
section
variable {L:Nat} {C ns:List Nat}
theorem jq.le (h:jq L C ns) (s:Nat):ns.getD s 0<2^L:=by
  rcases Nat.lt_or_ge s ns.length with hs|hs
  · exact h.lt _ (by simp[List.getD_eq_getElem?_getD,hs])
  · rw[List.getD_eq_getElem?_getD,List.getElem?_eq_none hs];exact Nat.two_pow_pos _
theorem jq.in (h:jq L C ns):∀s ∈ C,s<ns.length:=fun s hs=>by
  have h1:0<C.count s:=List.count_pos_iff.2 hs;rw[h.U0] at h1;apply Classical.byContradiction;intro hn;rw[List.getD_eq_getElem?_getD,List.getElem?_eq_none Om] at h1;simp at h1
theorem jq.occ (h:jq L C ns) {s j:Nat} (hj:j<ns.getD s 0):occC C s j<2^L∧(buildD L C ns).getD (occC C s j) (0,0,0)=BD L s (ns.getD s 0+j):=by
  obtain⟨h1,h2,h3⟩:=vJ C s j (by rw[h.U0];exact hj);refine⟨by rwa [h.len] at h1,?_⟩;rw[rr L C ns _ h1 h.in,h2,h3]
theorem jq.step (h:jq L C ns) {s c:Nat} (hs:1≤ns.getD s 0) (hc:c<2^L):BJ L C ns s c<2^L∧((buildD L C ns).getD (BJ L C ns s c) (0,0,0)).1=s∧
    ((buildD L C ns).getD (BJ L C ns s c) (0,0,0)).2.1=br L (ns.getD s 0) (c+2^L)∧((buildD L C ns).getD (BJ L C ns s c) (0,0,0)).2.2+(c+2^L)%2^br L (ns.getD s 0) (c+2^L)=c:=by
  have hn:=h.le s;have IM:2^L≤c+2^L∧c+2^L<2^(L+1):=by rw[Nat.pow_succ];omega
  obtain⟨e1,e2,e3⟩:=lW hs (Nat.le_of_lt hn) IM;obtain⟨b1,b2,b3⟩:=Kb hs (Nat.le_of_lt hn) IM;obtain⟨o1,o2⟩:=h.occ (s:=s) (j:=(c+2^L)/2^br L (ns.getD s 0) (c+2^L)-ns.getD s 0) Om;unfold BJ;rw[o2,Nat.add_sub_cancel' e2];refine⟨o1,rfl,b1,?_⟩;show _*2^(L-(aj _-1))-2^L+_=_;rw[b1];omega
theorem sO (i:Nat) (t:List Nat) (hi:i+2<t.length):(encA L C ns t).getD i 0=BJ L C ns (t.getD i 0) ((encA L C ns t).getD (i+2) 0):=by
  induction i generalizing t with
  |zero=>
    match t,hi with
    |s::t,hi=>
      have hl:=gE L C ns t;simp only[List.length_cons] at hi;simp only[encA];rw[if_neg Om,List.getD_cons_zero,List.getD_cons_zero,List.getD_cons_succ]
  |succ i ih=>
    match t,hi with
    |s::t,hi=>
      simp only[encA,List.getD_cons_succ];exact ih t (by simp only[List.length_cons] at hi;omega)
theorem uu (i:Nat) (t:List Nat) (hi:i<t.length) (h2:t.length≤i+2):(encA L C ns t).getD i 0=occC C (t.getD i 0) 0:=by
  induction i generalizing t with
  |zero=>
    match t,hi with
    |s::t,hi=>
      have hl:=gE L C ns t;simp only[List.length_cons] at h2;simp only[encA];rw[if_pos Om,List.getD_cons_zero,List.getD_cons_zero]
  |succ i ih=>
    match t,hi with
    |s::t,hi=>
      simp only[encA,List.getD_cons_succ];exact ih t (by simpa using hi) (by simpa using h2)
theorem jq.DT (h:jq L C ns):∀t:List Nat,(∀s ∈ t,1≤ns.getD s 0)→∀a ∈ encA L C ns t,a<2^L
  |[],_,a,ha=>by simp[encA] at ha
  |s::t,hs,a,ha=>by
    have ih:=h.DT t fun x hx=>hs x (List.mem_cons_of_mem _ hx)
    have h1:=hs s List.mem_cons_self;simp only[encA,List.mem_cons] at ha;rcases ha with rfl|ha
    · split
      · exact(h.occ Om).1
      · rename_i hl;refine(h.step h1 ?_).1;have:1<(encA L C ns t).length:=Om;exact ih _ (by simp[List.getD_eq_getElem?_getD,this])
    · exact ih a ha
theorem jq.Ah (h:jq L C ns) {t:List Nat} (hs:∀s ∈ t,1≤ns.getD s 0) (i:Nat):(encA L C ns t).getD i 0<2^L:=by
  rcases Nat.lt_or_ge i (encA L C ns t).length with hi|hi
  · exact h.DT t hs _ (by simp[List.getD_eq_getElem?_getD,hi])
  · rw[List.getD_eq_getElem?_getD,List.getElem?_eq_none hi];exact Nat.two_pow_pos _
theorem jq.text (h:jq L C ns) {t:List Nat} (hs:∀s ∈ t,1≤ns.getD s 0) (h2:2≤t.length):ju L (buildD L C ns) t (encA L C ns t):=by
  have hg:∀i,i<t.length→1≤ns.getD (t.getD i 0) 0:=fun i hi=>hs _ (by simp[List.getD_eq_getElem?_getD,hi])
  refine⟨gE L C ns t,h2,h.DT t hs,fun i hi=>?_,fun i hi=>?_⟩
  · rcases Nat.lt_or_ge (i+2) t.length with h'|h'
    · rw[sO i t h'];exact(h.step (hg i hi) (h.Ah hs _)).2.1
    · rw[uu i t hi h',(h.occ (hg i hi)).2];rfl
  · have hc:=h.Ah hs (i+2);obtain⟨_,_,s3,s4⟩:=h.step (hg i Om) hc;rw[sO i t hi,s3];have:=Nat.mod_lt ((encA L C ns t).getD (i+2) 0+2^L) (Nat.two_pow_pos (br L (ns.getD (t.getD i 0) 0) ((encA L C ns t).getD (i+2) 0+2^L)));omega
theorem jq.ends (h:jq L C ns) {t:List Nat} (hs:∀s ∈ t,1≤ns.getD s 0) (i:Nat) (hi:i<t.length) (h2:t.length≤i+2):1≤((buildD L C ns).getD ((encA L C ns t).getD i 0) (0,0,0)).2.1:=by
  have hg:1≤ns.getD (t.getD i 0) 0:=hs _ (by simp[List.getD_eq_getElem?_getD,hi]);rw[uu i t hi h2,(h.occ hg).2];show 1≤L-(aj (ns.getD (t.getD i 0) 0+0)-1);have h3:=h.le (t.getD i 0);have h4:=cW h3;have h5:=h.lg;rw[Nat.add_zero];omega
theorem jq.bits (h:jq L C ns) {t:List Nat} (hs:∀s ∈ t,1≤ns.getD s 0) {i:Nat} (hi:i+2<t.length):
    fN (buildD L C ns) ((encA L C ns t).drop i)=br L (ns.getD (t.getD i 0) 0) ((encA L C ns t).getD (i+2) 0+2^L)+fN (buildD L C ns) ((encA L C ns t).drop (i+1))∧
    fR (buildD L C ns) ((encA L C ns t).drop i)=((encA L C ns t).getD (i+2) 0+2^L)%2^br L (ns.getD (t.getD i 0) 0) ((encA L C ns t).getD (i+2) 0+2^L)*2^fN (buildD L C ns) ((encA L C ns t).drop (i+1))+fR (buildD L C ns) ((encA L C ns t).drop (i+1)):=by
  have hg:1≤ns.getD (t.getD i 0) 0:=hs _ (by simp[List.getD_eq_getElem?_getD,show i<t.length by omega]);obtain⟨e1,e2⟩:=qa (T:=buildD L C ns) (at_:=encA L C ns t) (i:=i) (by rw[gE];exact hi);obtain⟨_,_,s3,s4⟩:=h.step hg (h.Ah hs (i+2));rw[←sO i t hi] at s3 s4;rw[e1,e2,s3];refine⟨rfl,?_⟩;congr 2;omega
end
theorem cb.laid {log:Nat} {cs:List Int} (h:cb log cs):jq log (dm log cs) (aU cs):=⟨by rcases h.lg with h|h<;>omega,dE,sN h,h.DS⟩
def eC (ns:List Nat) (s:Nat):Nat:=(ns.take s).sum
theorem ed {ns:List Nat} {s:Nat}:eC ns (s+1)=eC ns s+ns.getD s 0:=by
  unfold eC;rcases Nat.lt_or_ge s ns.length with h|h
  · rw[List.take_succ_eq_append_getElem h,List.sum_append];simp[List.getD_eq_getElem?_getD,h]
  · rw[List.take_of_length_le h,List.take_of_length_le Om,List.getD_eq_getElem?_getD,List.getElem?_eq_none h];rfl
theorem uv {ns:List Nat} {s t:Nat} (h:s<t):eC ns s+ns.getD s 0≤eC ns t:=by
  induction t with
  |zero=>omega
  |succ t ih=>
    rcases Nat.lt_or_ge s t with h1|h1
    · have:=ih h1;rw[ed];omega
    · have:s=t:=Om;subst this;rw[ed];exact Nat.le_refl _
theorem BK (ns:List Nat):eC ns ns.length=ns.sum:=by unfold eC;rw[List.take_length]
theorem lG {ns:List Nat} {s:Nat}:eC ns s≤ns.sum:=by
  unfold eC;have:=congrArg List.sum (List.take_append_drop s ns);rw[List.sum_append] at this;omega
theorem Ki {ns:List Nat} {s t i j:Nat} (hi:i<ns.getD s 0) (hj:j<ns.getD t 0) (h:eC ns s+i=eC ns t+j):s=t∧i=j:=by
  rcases Nat.lt_trichotomy s t with h1|h1|h1
  · have:=uv (ns:=ns) h1;omega
  · subst h1;exact⟨rfl,Om⟩
  · have:=uv (ns:=ns) h1;omega
def sP (Z:Nat) (C ns S:List Nat) (u:Nat):Prop:=∀w,w<u→S.getD (eC ns (C.getD w 0)+(C.take w).count (C.getD w 0)) 0=Z+w
def nh (C ns M:List Nat) (u:Nat):Prop:=∀s,s<ns.length→M.getD s 0=eC ns s+(C.take u).count s
theorem lj {C:List Nat} {u:Nat} (hu:u<C.length) (s:Nat):(C.take (u+1)).count s=(C.take u).count s+if C.getD u 0=s then 1 else 0:=by
  rw[List.take_succ_eq_append_getElem hu,List.count_append,List.count_singleton];simp[List.getD_eq_getElem?_getD,hu]
theorem mQ {C ns:List Nat} (qw:∀x,C.count x=ns.getD x 0) {u:Nat} (hu:u<C.length):(C.take u).count (C.getD u 0)<ns.getD (C.getD u 0) 0:=by
  have h1:=lj hu (C.getD u 0);rw[if_pos rfl] at h1;have h2:=(List.take_sublist (u+1) C).count_le (C.getD u 0);rw[qw] at h2;omega
theorem sP.step {Z u:Nat} {C ns S:List Nat} (h:sP Z C ns S u) (qw:∀x,C.count x=ns.getD x 0) (hu:u<C.length) (hS:eC ns (C.getD u 0)+(C.take u).count (C.getD u 0)<S.length):sP Z C ns (S.set (eC ns (C.getD u 0)+(C.take u).count (C.getD u 0)) (Z+u)) (u+1):=fun w hw=>by
  rw[aH hS];split
  · rename_i e;have SV:w<C.length:=Om;obtain⟨e1,e2⟩:=Ki (mQ qw hu) (mQ qw SV) e;have o4:occC C (C.getD w 0) ((C.take w).count (C.getD w 0))=occC C (C.getD u 0) ((C.take u).count (C.getD u 0)):=by rw[←e2, ←e1]
    have o3:=(Ag C w SV).symm.trans (o4.trans (Ag C u hu));rw[o3]
  · rename_i e;refine h w (Nat.lt_of_le_of_ne Om fun hh=>e ?_);rw[hh]
theorem nh.step {u:Nat} {C ns M:List Nat} (h:nh C ns M u) (hu:u<C.length) (kQ:C.getD u 0<ns.length) (hM:ns.length≤M.length):nh C ns (M.set (C.getD u 0) (M.getD (C.getD u 0) 0+1)) (u+1):=fun s hs=>by
  rw[aH Om,lj hu];have h0:=h s hs;by_cases e:C.getD u 0=s
  · rw[if_pos e,if_pos e,e,h0];omega
  · rw[if_neg e,if_neg e,Nat.add_zero];exact h0
theorem sP.get {Z:Nat} {C ns S:List Nat} (h:sP Z C ns S C.length) (qw:∀x,C.count x=ns.getD x 0) {s j:Nat} (hj:j<ns.getD s 0):S.getD (eC ns s+j) 0=Z+occC C s j:=by
  obtain⟨h1,h2,h3⟩:=vJ C s j (by rw[qw];exact hj);have:=h _ h1;rwa [h2,h3] at this
def fillT (L:Nat):Nat→List Nat→List Nat→List Nat→List Nat
  |_,[],_,dt=>dt
  |n,w::ws,r,dt=>if w=0 then fillT L (n+1) ws r dt else fillT L (n+1) ws (r.set w (r.getD w 0+2^(w-1))) (cG dt (r.getD w 0) (List.replicate (2^(w-1)) (L+1-w+256*n)))
def S5 (r ws:List Nat) (w v:Nat):Prop:=0<w∧r.getD w 0≤v∧v<r.getD w 0+ws.count w*2^(w-1)
structure jV (r ws dt:List Nat):Prop where
  Qv:r.length=16
  S6:∀w ∈ ws,w<16
  fit:∀w,0<w→w ∈ ws→r.getD w 0+ws.count w*2^(w-1)≤dt.length
  dis:∀w w' v,S5 r ws w v→S5 r ws w' v→w=w'
theorem sQ {n v q:Nat} (h:q<n):(List.replicate n v).getD q 0=v:=by simp[List.getD_eq_getElem?_getD,h]
theorem jV.skip {r ws dt:List Nat} (h:jV r (0::ws) dt):jV r ws dt:=by
  have hc:∀w,0<w→(0::ws).count w=ws.count w:=fun w hw=>by rw[List.count_cons_of_ne Om]
  refine⟨h.Qv,fun w hw=>h.S6 w (List.mem_cons_of_mem _ hw),fun w h0 h1=>by rw[←hc w h0];exact h.fit w h0 (List.mem_cons_of_mem _ h1),fun w w' v h1 h2=>h.dis w w' v ?_ ?_⟩
  · exact⟨h1.1,h1.2.1,by rw[hc w h1.1];exact h1.2.2⟩
  · exact⟨h2.1,h2.2.1,by rw[hc w' h2.1];exact h2.2.2⟩
theorem sR {r ws:List Nat} {w x v:Nat} (hr:r.length=16) (hw:w<16) (h0:0<w) (h:S5 (r.set w (r.getD w 0+2^(w-1))) ws x v):S5 r (w::ws) x v∧(x=w→r.getD w 0+2^(w-1)≤v):=by
  obtain⟨h1,h2,h3⟩:=h;rw[ij Om] at h2 h3;by_cases e:w=x
  · subst e;rw[if_pos rfl] at h2 h3;refine⟨⟨h1,Nat.le_trans (Nat.le_add_right _ _) h2,?_⟩,fun _=>h2⟩;rw[List.count_cons_self,Nat.add_mul,Nat.one_mul];omega
  · rw[if_neg e] at h2 h3;exact⟨⟨h1,h2,by rw[List.count_cons_of_ne Om];exact h3⟩,fun h=>(e h.symm).elim⟩
theorem jV.Hc {r ws dt:List Nat} {w:Nat} (h:jV r (w::ws) dt) (h0:0<w):r.getD w 0+2^(w-1)≤dt.length:=by
  have:=h.fit w h0 List.mem_cons_self;rw[List.count_cons_self,Nat.add_mul,Nat.one_mul] at this;omega
theorem jV.step {r ws dt dt':List Nat} {w:Nat} (h:jV r (w::ws) dt) (h0:0<w) (hd:dt'.length=dt.length):jV (r.set w (r.getD w 0+2^(w-1))) ws dt':=by
  have hw:=h.S6 w List.mem_cons_self;refine⟨by simp[h.Qv],fun x hx=>h.S6 x (List.mem_cons_of_mem _ hx),fun x Ij hx=>?_,fun x y v h1 h2=>h.dis x y v (sR h.Qv hw h0 h1).1 (sR h.Qv hw h0 h2).1⟩;have:=h.fit x Ij (List.mem_cons_of_mem _ hx);rw[ij (by rw[h.Qv];exact hw),hd];by_cases e:w=x
  · subst e;rw[List.count_cons_self,Nat.add_mul,Nat.one_mul] at this;rw[if_pos rfl];omega
  · rw[if_neg e];rw[List.count_cons_of_ne Om] at this;exact this
theorem oa {L:Nat}:∀(ws r dt:List Nat) (n:Nat),jV r ws dt→(fillT L n ws r dt).length=dt.length
  |[],r,dt,n,_=>rfl
  |w::ws,r,dt,n,h=>by
    unfold fillT;by_cases e:w=0
    · subst e;rw[if_pos rfl];exact oa ws r dt _ h.skip
    · rw[if_neg e];have hl:(cG dt (r.getD w 0) (List.replicate (2^(w-1)) (L+1-w+256*n))).length=dt.length:=au (by simp;exact h.Hc Om);rw[oa ws _ _ _ (h.step Om hl),hl]
theorem uw {L:Nat}:∀(ws r dt:List Nat) (n v:Nat),jV r ws dt→(∀w,¬S5 r ws w v)→(fillT L n ws r dt).getD v 0=dt.getD v 0
  |[],r,dt,n,v,_,_=>rfl
  |w::ws,r,dt,n,v,h,hv=>by
    unfold fillT;by_cases e:w=0
    · subst e;rw[if_pos rfl];refine uw ws r dt _ v h.skip fun x hx=>hv x ⟨hx.1,hx.2.1,?_⟩
      have h1:=hx.1;rw[List.count_cons_of_ne Om];exact hx.2.2
    · rw[if_neg e];have Pc:=h.Hc Om;have hl:(cG dt (r.getD w 0) (List.replicate (2^(w-1)) (L+1-w+256*n))).length=dt.length:=au (by simp;exact Pc);rw[uw ws _ _ _ v (h.step Om hl) fun x hx=>hv x (sR h.Qv (h.S6 w List.mem_cons_self) Om hx).1];rw[qc (by simp;exact Pc),if_neg];intro ⟨h1,h2⟩;rw[List.length_replicate] at h2;refine hv w ⟨Om,h1,Nat.lt_of_lt_of_le h2 ?_⟩;rw[List.count_cons_self,Nat.add_mul,Nat.one_mul];omega
theorem wS {L:Nat}:∀(ws r dt:List Nat) (n s v:Nat),jV r ws dt→s<ws.length→0<ws.getD s 0→r.getD (ws.getD s 0) 0+(ws.take s).count (ws.getD s 0)*2^(ws.getD s 0-1)≤v→
      v<r.getD (ws.getD s 0) 0+((ws.take s).count (ws.getD s 0)+1)*2^(ws.getD s 0-1)→(fillT L n ws r dt).getD v 0=L+1-ws.getD s 0+256*(n+s)
  |[],r,dt,n,s,v,_,hs,_,_,_=>by simp at hs
  |w::ws,r,dt,n,0,v,h,hs,h0,h1,h2=>by
    simp only[List.getD_cons_zero,List.take_zero,List.count_nil,Nat.zero_mul,Nat.add_zero,Nat.zero_add,Nat.one_mul] at h0 h1 h2 ⊢;unfold fillT;rw[if_neg Om];have Pc:=h.Hc h0;have hl:(cG dt (r.getD w 0) (List.replicate (2^(w-1)) (L+1-w+256*n))).length=dt.length:=au (by simp;exact Pc);rw[uw ws _ _ _ v (h.step h0 hl) fun x hx=>?_]
    · rw[qc (by simp;exact Pc),if_pos ⟨h1,by simp;exact h2⟩,sQ Om]
    · obtain⟨hx1,Dc⟩:=sR h.Qv (h.S6 w List.mem_cons_self) h0 hx;have hw:S5 r (w::ws) w v:=⟨h0,h1,by rw[List.count_cons_self,Nat.add_mul,Nat.one_mul];omega⟩;have:=h.dis x w v hx1 hw;have:=Dc this;omega
  |w::ws,r,dt,n,s+1,v,h,hs,h0,h1,h2=>by
    simp only[List.getD_cons_succ,List.take_succ_cons] at h0 h1 h2 ⊢;have hs':s<ws.length:=by simpa using hs
    unfold fillT;rw[show n+(s+1)=n+1+s by omega];by_cases e:w=0
    · subst e;rw[if_pos rfl];rw[List.count_cons_of_ne Om] at h1 h2;exact wS ws r dt (n+1) s v h.skip hs' h0 h1 h2
    · rw[if_neg e];have Pc:=h.Hc Om;have hl:(cG dt (r.getD w 0) (List.replicate (2^(w-1)) (L+1-w+256*n))).length=dt.length:=au (by simp;exact Pc);refine wS ws _ _ (n+1) s v (h.step Om hl) hs' h0 ?_ ?_
      · rw[ij (by rw[h.Qv];exact h.S6 w List.mem_cons_self)];by_cases e2:w=ws.getD s 0
        · rw[if_pos e2];rw[e2,List.count_cons_self,Nat.add_mul,Nat.one_mul] at h1;rw[e2];omega
        · rw[if_neg e2];rw[List.count_cons_of_ne Om] at h1;exact h1
      · rw[ij (by rw[h.Qv];exact h.S6 w List.mem_cons_self)];by_cases e2:w=ws.getD s 0
        · rw[if_pos e2];rw[e2,List.count_cons_self,Nat.add_mul,Nat.add_mul,Nat.one_mul] at h2;rw[e2,Nat.add_mul,Nat.one_mul];omega
        · rw[if_neg e2];rw[List.count_cons_of_ne Om] at h2;exact h2
def startW (ws:List Nat):Nat→Nat
  |0=>0
  |w+1=>startW ws w+(if w=0 then 0 else ws.count w*2^(w-1))
theorem fH (ws:List Nat) {a b:Nat} (h:a≤b):startW ws a≤startW ws b:=by
  induction b with
  |zero=>
    have:a=0:=Om;subst this;exact Nat.le_refl _
  |succ b ih=>
    rcases Nat.lt_or_ge a (b+1) with h'|h'
    · exact Nat.le_trans (ih Om) (Nat.le_add_right _ _)
    · have:a=b+1:=Om;subst this;exact Nat.le_refl _
theorem gF {ws:List Nat} {w:Nat} (h:0<w):startW ws (w+1)=startW ws w+ws.count w*2^(w-1):=by
  simp only[startW];rw[if_neg Om]
theorem wT (ws:List Nat) {w:Nat} (h0:0<w):∀m,w≤m→2^(w-1)∣startW ws m-startW ws w
  |0,h=>by omega
  |m+1,h=>by
    rcases Nat.lt_or_ge w (m+1) with h'|h'
    · have ih:=wT ws h0 m Om;rw[gF Om];have hm:=fH ws (show w≤m by omega);rw[show startW ws m+ws.count m*2^(m-1)-startW ws w=(startW ws m-startW ws w)+ws.count m*2^(m-1) by omega];refine Nat.dvd_add ih (Nat.dvd_mul_left_of_dvd (Nat.pow_dvd_pow 2 Om) _)
    · have:w=m+1:=Om;subst this;simp
def BL (L:Nat) (ws:List Nat) (s:Nat):Nat × Nat:=(L+1-ws.getD s 0,startW ws (ws.getD s 0)/2^(ws.getD s 0-1)+(ws.take s).count (ws.getD s 0))
theorem yv {ws:List Nat} {s:Nat} (hs:s<ws.length):(ws.take s).count (ws.getD s 0)+1≤ws.count (ws.getD s 0):=by
  have hg:ws.getD s 0=ws[s]:=by simp[hs]
  have h1:(ws.take (s+1)).count ws[s]=(ws.take s).count ws[s]+1:=by rw[List.take_succ_eq_append_getElem hs,List.count_append,List.count_singleton_self]
  rw[hg, ←h1];exact(List.take_sublist _ _).count_le _
theorem wU {L:Nat} {ws r dt:List Nat} (hL:1≤L) (BM:L≤11) (hlen:ws.length≤256) (hw:∀w ∈ ws,w≤L) (hr:r.length=16) (kt:∀w,0<w→w≤L→r.getD w 0=startW ws w) (pr:startW ws (L+1)=2^L) (hdt:dt.length=2048):
    Be (fillT L 0 ws r dt) L (BL L ws) (fun s=>s<ws.length∧0<ws.getD s 0)∧(fillT L 0 ws r dt).length=2048:=by
  have pos:∀m:Nat,0<2^m:=fun m=>Nat.pow_pos Om
  have hLL:(2:Nat)^L≤2^11:=Nat.pow_le_pow_right Om BM;have U1:∀w,L<w→ws.count w=0:=fun w h=>List.count_eq_zero.2 fun hm=>by have:=hw w hm;omega
  have BN:∀w v,S5 r ws w v→w≤L∧startW ws w≤v∧v<startW ws (w+1):=fun w v h=>by
    rcases Nat.lt_or_ge L w with h'|h'
    · have:=h.2.2;rw[U1 w h'] at this;have:=h.2.1;omega
    · have h1:=h.2.1;have h2:=h.2.2;rw[kt w h.1 h'] at h1 h2;exact⟨h',h1,by rw[gF h.1];exact h2⟩
  have ok:jV r ws dt:=by
    refine⟨hr,fun w h=>by have:=hw w h;omega,fun w h0 yo=>?_,fun w w' v h1 h2=>?_⟩
    · have h':=hw w yo;rw[kt w h0 h', ←gF h0];have:=fH ws (show w+1≤L+1 by omega);omega
    · obtain⟨_,a1,a2⟩:=BN w v h1;obtain⟨_,b1,b2⟩:=BN w' v h2;rcases Nat.lt_trichotomy w w' with h|h|h
      · have:=fH ws (show w+1≤w' by omega);omega
      · exact h
      · have:=fH ws (show w'+1≤w by omega);omega
  refine⟨⟨hL,BM,fun s hs=>?_,fun s hs v hv he=>?_⟩,by rw[oa ws r dt 0 ok];exact hdt⟩;all_goals
    have hm:ws.getD s 0≤L:=hw _ (by simp[hs.1]);have hdv:=wT ws hs.2 (L+1) Om;have hle:=fH ws (show ws.getD s 0≤L+1 by omega);have Qw:=fH ws (show ws.getD s 0+1≤L+1 by omega);rw[gF hs.2] at Qw;have hc:=yv hs.1;rw[pr] at hdv hle Qw;have h2:2^(ws.getD s 0-1)∣startW ws (ws.getD s 0):=by
      have:=Nat.dvd_sub (Nat.pow_dvd_pow 2 (show ws.getD s 0-1≤L by omega)) hdv;rwa [show 2^L-(2^L-startW ws (ws.getD s 0))=startW ws (ws.getD s 0) by omega] at this
    obtain⟨q,hq⟩:=h2;have hqd:startW ws (ws.getD s 0)/2^(ws.getD s 0-1)=q:=by rw[hq,Nat.mul_div_cancel_left _ (pos _)]
    have hqm:startW ws (ws.getD s 0)=q*2^(ws.getD s 0-1):=by rw[hq,Nat.mul_comm]
  · refine⟨Om,by show 1≤L+1-_;omega,by show L+1-_≤L;omega,?_⟩;show startW ws (ws.getD s 0)/2^(ws.getD s 0-1)+_<2^(L+1-ws.getD s 0);rw[hqd];have e:(2:Nat)^L=2^(L+1-ws.getD s 0)*2^(ws.getD s 0-1):=by rw[←Nat.pow_add];congr 1;omega
    rw[hqm,e, ←Nat.add_mul] at Qw;have:=Nat.le_of_mul_le_mul_right Qw (pos _);omega
  · have e1:L-(BL L ws s).1=ws.getD s 0-1:=by show L-(L+1-ws.getD s 0)=_;omega
    rw[e1] at he;have e2:(BL L ws s).2=q+(ws.take s).count (ws.getD s 0):=by show _/_+_=_;rw[hqd]
    rw[e2] at he;have z5:(q+(ws.take s).count (ws.getD s 0))*2^(ws.getD s 0-1)≤v:=by rw[←he];exact Nat.div_mul_le_self _ _
    have x8:v<(q+(ws.take s).count (ws.getD s 0)+1)*2^(ws.getD s 0-1):=by
      rw[←he];exact Nat.lt_mul_of_div_lt (Nat.lt_succ_self _) (pos _)
    rw[Nat.add_assoc,Nat.add_mul, ←hqm] at x8;rw[Nat.add_mul, ←hqm] at z5;have:=wS (L:=L) ws r dt 0 s v ok hs.1 hs.2 (by rw[kt _ hs.2 hm];exact z5) (by rw[kt _ hs.2 hm];exact x8);rw[this];show _=L+1-_+_;omega
def kR (ls:List Nat) (L last:Nat):List Nat:=(ls.take (last+1)).map (sJ L)
theorem HW.FL {ls:List Nat} {L last:Nat} (h:HW ls L last) (i:Nat):ls.getD i 0≤L:=h.le.at_ i
theorem HW.L1 {ls:List Nat} {L last:Nat} (h:HW ls L last):1≤L:=by
  have:=h.FL last;have:=h.nz;omega
theorem Qx {L a b:Nat} (ha:a≤L) (hb:b≤L) (h:sJ L a=sJ L b):a=b:=by
  unfold sJ at h;split at h<;>split at h<;>omega
theorem ux {L n:Nat} (hn:n≤L):∀xs:List Nat,ft xs L→(xs.map (sJ L)).count (sJ L n)=xs.count n
  |[],_=>rfl
  |x::xs,h=>by
    have ih:=ux hn xs (fun y hy=>h y (List.mem_cons_of_mem _ hy));have hx:=h x List.mem_cons_self;rw[List.map_cons,List.count_cons,List.count_cons,ih];by_cases e:x=n
    · subst e;simp
    · have e2:sJ L x≠sJ L n:=fun h'=>e (Qx hx hn h')
      simp[e,e2]
theorem ft.Kj {xs:List Nat} {b:Nat} (h:ft xs b) (i:Nat):ft (xs.take i) b:=fun x hx=>h x (List.mem_of_mem_take hx)
theorem u4 {ls:List Nat} {L last:Nat} (h:HW ls L last):(kR ls L last).length=last+1:=by
  have:=h.lt;simp[kR];omega
theorem BO {ls:List Nat} {L last s:Nat} (h:HW ls L last) (hs:s≤last):(kR ls L last).getD s 0=sJ L (ls.getD s 0):=by
  have:=h.lt;simp[kR,List.getD_eq_getElem?_getD,show s<last+1 by omega,show s<ls.length by omega]
theorem Ai {ls:List Nat} {L last:Nat}:∀w ∈ kR ls L last,w≤L:=fun w hw=>by
  simp only[kR,List.mem_map] at hw;obtain⟨x,_,rfl⟩:=hw;unfold sJ;split<;>omega
theorem zi {ls:List Nat} {L last:Nat} (h:HW ls L last):∀x ∈ ls.drop (last+1),x=0:=fun x hx=>by
  obtain⟨i,hi,rfl⟩:=List.getElem_of_mem hx;have:=h.z (last+1+i) Om;rw[List.getElem_drop];rw[List.length_drop] at hi;simpa [List.getD_eq_getElem?_getD,show last+1+i<ls.length by omega] using this
theorem BP {ls:List Nat} {L last n:Nat} (h:HW ls L last) (hn:1≤n):(ls.take (last+1)).count n=ls.count n:=by
  have e:ls.count n=(ls.take (last+1)).count n+(ls.drop (last+1)).count n:=by rw[←List.count_append,List.take_append_drop]
  have:(ls.drop (last+1)).count n=0:=List.count_eq_zero.2 fun hm=>by have:=zi h n hm;omega
  omega
theorem wV {ls:List Nat} {L last n:Nat} (h:HW ls L last) (hn:1≤n) (hnL:n≤L):(kR ls L last).count (L+1-n)=ls.count n:=by
  have e:L+1-n=sJ L n:=by unfold sJ;rw[if_neg Om]
  rw[e,kR,ux hnL _ (h.le.Kj _),BP h hn]
theorem FM {ls:List Nat} {L:Nat} (h:ft ls L):∀d,d+L≤11→nx ls d=0
  |0,_=>rfl
  |d+1,hd=>by
    have h0:ls.count (11-d)=0:=List.count_eq_zero.2 fun hm=>by have:=h _ hm;omega
    simp only[nx,FM h d Om,h0]
theorem Aj {ls:List Nat} {L:Nat} (h:ft ls L) (hL:L≤11):yp ls L=0:=FM h _ Om
theorem zj {ls:List Nat} {L last:Nat} (h:HW ls L last) (hL:L≤11) (he:iW ls):∀w,1≤w→w≤L+1→startW (kR ls L last) w=yp ls (L+1-w)*2^(w-1)
  |0,h0,_=>by omega
  |1,_,_=>by rw[Nat.add_sub_cancel,Aj h.le hL];simp[startW]
  |w+2,_,hw=>by
    have ih:=zj h hL he (w+1) Om Om;rw[gF Om,ih];have hc:=wV h (n:=L-w) Om Om;rw[show L+1-(L-w)=w+1 by omega] at hc;have hp:=wM ls (m:=L-w) Om Om;have hv:=he (L-w) Om Om;rw[hc,show L+1-(w+1)=L-w by omega,show L+1-(w+2)=L-w-1 by omega,hp,Nat.add_sub_cancel,show w+2-1=w+1 by omega,Nat.pow_succ, ←Nat.add_mul];generalize yp ls (L-w)+ls.count (L-w)=q at hv;obtain⟨r,rfl⟩:∃r,q=r*2:=⟨q/2,Om⟩;rw[Nat.mul_div_cancel _ Om,Nat.mul_assoc,Nat.mul_comm 2]
theorem Qy {ls:List Nat} {L last s:Nat} (h:HW ls L last) (hL:L≤11) (he:iW ls) (hs:1≤ls.getD s 0):BL L (kR ls L last) s=um ls s∧s≤last:=by
  have mw:s≤last:=Classical.byContradiction fun hn=>by have:=h.z s Om;omega
  have hn:=h.FL s;refine⟨?_,mw⟩;have hg:=BO h mw;have hw:sJ L (ls.getD s 0)=L+1-ls.getD s 0:=by unfold sJ;rw[if_neg Om]
  unfold BL um DJ;rw[hg];refine Prod.ext (by rw[hw];omega) ?_;show startW _ _/_+_=_;rw[hw,zj h hL he _ Om Om,Nat.mul_div_cancel _ (Nat.pow_pos Om),show L+1-(L+1-ls.getD s 0)=ls.getD s 0 by omega];congr 1;have e:(kR ls L last).take s=(ls.take s).map (sJ L):=by
    rw[kR, ←List.map_take,List.take_take,Nat.min_eq_left Om]
  rw[e, ←hw,ux hn _ (h.le.Kj _)]
def cellsW:List Nat→Nat
  |[]=>0
  |w::ws=>(if w=0 then 0 else 2^(w-1))+cellsW ws
theorem kJ:∀a b:List Nat,cellsW (a++b)=cellsW a+cellsW b
  |[],b=>by simp[cellsW]
  |x::a,b=>by simp only[List.cons_append,cellsW,kJ a b];omega
theorem wW:∀m,startW [] m=0
  |0=>rfl
  |m+1=>by simp only[startW,wW m];split<;>simp
theorem u5 (x:Nat) (ws:List Nat):∀m,startW (x::ws) m=startW ws m+(if x=0∨m≤x then 0 else 2^(x-1))
  |0=>by simp[startW]
  |m+1=>by
    simp only[startW,u5 x ws m];by_cases hm:m=0
    · subst hm;simp only[if_true];rw[if_pos Om,if_pos Om]
    · rw[if_neg hm,if_neg hm,List.count_cons];by_cases e:x=m
      · subst e;rw[if_pos (show x=0∨x≤x by omega),if_neg (show¬(x=0∨x+1≤x) by omega),if_pos (beq_self_eq_true x),Nat.add_mul,Nat.one_mul];omega
      · have:(x==m)=false:=by simp;omega
        simp only[this,Bool.false_eq_true,if_false,Nat.add_zero];by_cases h1:x=0∨m≤x
        · rw[if_pos h1,if_pos Om];omega
        · rw[if_neg h1,if_neg Om];omega
theorem lY {L:Nat}:∀ws:List Nat,(∀w ∈ ws,w≤L)→startW ws (L+1)=cellsW ws
  |[],_=>wW _
  |x::ws,h=>by
    have hx:=h x List.mem_cons_self;rw[u5,lY ws (fun w hw=>h w (List.mem_cons_of_mem _ hw)),cellsW];by_cases e:x=0
    · rw[if_pos Om,if_pos e];omega
    · rw[if_neg Om,if_neg e];omega
theorem u6 {L:Nat} (hL:L≤11):∀xs:List Nat,ft xs L→cellsW (xs.map (sJ L))*2^(11-L)=gU xs
  |[],_=>by simp[cellsW,gU]
  |x::xs,h=>by
    have ih:=u6 hL xs (fun y hy=>h y (List.mem_cons_of_mem _ hy));have hx:=h x List.mem_cons_self;rw[List.map_cons,cellsW,gU,Nat.add_mul,ih];congr 1;unfold sJ;by_cases e:x=0
    · rw[if_pos e,if_pos rfl,if_pos e,Nat.zero_mul]
    · rw[if_neg e,if_neg Om,if_neg e, ←Nat.pow_add];congr 1;omega
theorem DU {ls:List Nat} {L last:Nat} (h:HW ls L last):gU (ls.take (last+1))=gU ls:=by
  have e:gU ls=gU (ls.take (last+1))+gU (ls.drop (last+1)):=by rw[←sI,List.take_append_drop]
  have hz:∀xs:List Nat,(∀x ∈ xs,x=0)→gU xs=0:=fun xs=>by
    induction xs with
    |nil=>intro _;rfl
    |cons x xs ih=>intro hx;simp only[gU,hx x List.mem_cons_self,ih fun y hy=>hx y (List.mem_cons_of_mem _ hy)];rfl
  rw[hz _ (zi h)] at e;omega
theorem pt {ls:List Nat} {L last:Nat} (h:HW ls L last) (hw:iE ls) (hL:L≤11):cellsW (kR ls L last)=2^L:=by
  have h1:=u6 hL (ls.take (last+1)) (h.le.Kj _);rw[DU h,hw.2.2.1,show(2048:Nat)=2^L*2^(11-L) by rw[←Nat.pow_add,show L+(11-L)=11 by omega]] at h1;exact Nat.eq_of_mul_eq_mul_right (Nat.pow_pos Om) h1
theorem zk {ls:List Nat} {L last:Nat} (h:HW ls L last):kR ls L last=cH ls L last++[sJ L (ls.getD last 0)]:=by
  rw[kR,cP h.lt,List.map_append];rfl
theorem HW.L11 {ls:List Nat} {L last:Nat} (h:HW ls L last) (hw:iE ls):L≤11:=by
  obtain⟨p,hp,rfl⟩:=h.at_;exact hw.2.1.at_ p
theorem px {ls:List Nat} {L last:Nat} (h:HW ls L last) (hw:iE ls):cellsW (cH ls L last)+2^(L-ls.getD last 0)=2^L∧1≤ls.getD last 0∧ls.getD last 0≤L:=by
  have h1:=pt h hw (h.L11 hw);have h2:=h.nz;have h3:=h.FL last;rw[zk h,kJ] at h1;simp only[cellsW,sJ,if_neg h2] at h1;rw[if_neg Om,show L+1-ls.getD last 0-1=L-ls.getD last 0 by omega] at h1;exact⟨Om,Om,h3⟩
theorem BQ {ls:List Nat} {L last:Nat} (h:HW ls L last) (hw:iE ls):aj (cellsW (cH ls L last))=L∧2^(L-1)≤cellsW (cH ls L last):=by
  obtain⟨h1,h2,h3⟩:=px h hw;have hp:(2:Nat)^(L-ls.getD last 0)≤2^(L-1):=Nat.pow_le_pow_right Om Om;have hq:(2:Nat)^L=2^(L-1)*2:=by rw[←Nat.pow_succ];congr 1;omega
  have sG:=Nat.pow_pos (n:=L-ls.getD last 0) (show 0<2 by omega);have a:=cW (n:=cellsW (cH ls L last)) (k:=L) Om;have b:=gM (cellsW (cH ls L last));have c:L-1<aj (cellsW (cH ls L last)):=(Nat.pow_lt_pow_iff_right Om).1 (Nat.lt_of_le_of_lt (show 2^(L-1)≤_ by omega) b);exact⟨Om,Om⟩
theorem Ak {ls:List Nat} {L last:Nat} (h:HW ls L last) (hL:L≤11) (he:iW ls):2≤(kR ls L last).count 1∧(kR ls L last).count 1%2=0:=by
  have hc:=wV h (n:=L) h.L1 (Nat.le_refl _);rw[show L+1-L=1 by omega] at hc;have h1:=he L h.L1 hL;rw[Aj h.le hL,Nat.zero_add] at h1;obtain⟨p,hp,FN⟩:=h.at_;have h2:0<ls.count L:=List.count_pos_iff.2 (by rw[←FN];exact wK hp);omega
structure sS (H P:List Nat):Prop where
  len:H.length=64
  sum:∀v,v<16→H.getD v 0+H.getD (16+v) 0+H.getD (32+v) 0+H.getD (48+v) 0=P.count v
theorem sS.zero:sS (List.replicate 64 0) []:=⟨List.length_replicate,fun v hv=>by rw[jn,jn,jn,jn];rfl⟩
theorem sS.step {H P:List Nat} (h:sS H P) {a x:Nat} (hx:x<16) (ha:a=x∨a=16+x∨a=32+x∨a=48+x):sS (H.set a (H.getD a 0+1)) (P++[x]):=by
  have hl:=h.len;have g:∀j,(H.set a (H.getD a 0+1)).getD j 0=H.getD j 0+if a=j then 1 else 0:=fun j=>by
    rw[ij Om];by_cases e:a=j
    · subst e;simp
    · simp[e]
  refine⟨by rw[List.length_set];exact hl,fun v hv=>?_⟩;rw[g,g,g,g,List.count_append, ←h.sum v hv];have b:[x].count v=if x=v then 1 else 0:=by
    by_cases e:x=v
    · subst e;simp
    · simp[e]
  rw[b];by_cases e:x=v
  · subst e;rw[if_pos (rfl:x=x)];rcases ha with rfl|rfl|rfl|rfl
    · rw[if_pos rfl,if_neg Om,if_neg Om,if_neg Om];omega
    · rw[if_neg Om,if_pos rfl,if_neg Om,if_neg Om];omega
    · rw[if_neg Om,if_neg Om,if_pos rfl,if_neg Om];omega
    · rw[if_neg Om,if_neg Om,if_neg Om,if_pos rfl];omega
  · rw[if_neg e,if_neg Om,if_neg Om,if_neg Om,if_neg Om];omega
theorem sS.le {H P:List Nat} (h:sS H P) {v:Nat} (hv:v<16):H.getD v 0≤P.length∧H.getD (16+v) 0≤P.length∧H.getD (32+v) 0≤P.length∧H.getD (48+v) 0≤P.length:=by
  have h1:=h.sum v hv;have h2:=List.count_le_length (a:=v) (l:=P);omega
def sT (R P:List Nat) (n:Nat):Prop:=∀v,v<n→R.getD v 0=P.count v
theorem sT.step {R P:List Nat} {n x:Nat} (h:sT R P n) (hn:n<R.length) (hx:x=P.count n):sT (R.set n x) P (n+1):=fun v hv=>by
  rw[ij hn];by_cases e:n=v
  · rw[if_pos e,hx,e]
  · rw[if_neg e];exact h v Om
theorem sT.last {R P:List Nat} {n x:Nat} (h:sT R P n) (hn:n≤R.length) (hx:x<n):sT (R.set x (R.getD x 0+1)) (P++[x]) n:=fun v hv=>by
  rw[ij Om,List.count_append];by_cases e:x=v
  · subst e;rw[if_pos rfl,h x hx];simp
  · rw[if_neg e,h v hv];simp[e]
theorem zl {ws:List Nat} {i L:Nat} (h:∀w ∈ ws,w≤L) (hs:cellsW ws≤2048) (hi:1≤i):startW ws i+ws.count i*2^(i-1)=startW ws (i+1)∧startW ws (i+1)≤2048:=by
  refine⟨(gF hi).symm,?_⟩;have h1:=lY (L:=max L i) ws fun w hw=>Nat.le_trans (h w hw) (Nat.le_max_left _ _)
  have h2:=fH ws (show i+1≤max L i+1 by have:=Nat.le_max_right L i;omega);omega
structure rz (R ws:List Nat) (n:Nat):Prop where
  low:∀v,1≤v→v<n→R.getD v 0=startW ws v
  high:∀v,n≤v→v<16→R.getD v 0=ws.count v
theorem rz.init {R ws:List Nat} (h:sT R ws 16):rz R ws 1:=⟨fun v h1 h2=>Om,fun v _ h2=>h v h2⟩
theorem rz.step {R ws:List Nat} {n x:Nat} (h:rz R ws n) (hl:R.length=16) (hn:n<16) (hx:x=startW ws n):rz (R.set n x) ws (n+1):=by
  refine⟨fun v h1 h2=>?_,fun v h1 h2=>?_⟩
  · rw[ij Om];by_cases e:n=v
    · rw[if_pos e,hx,e]
    · rw[if_neg e];exact h.low v h1 Om
  · rw[ij Om,if_neg Om];exact h.high v Om h2
theorem BS (k:Nat):aj (2^k)=k+1:=jU (by rw[Nat.add_sub_cancel];exact Nat.le_refl _) (Nat.pow_lt_pow_right Om Om) Om
theorem Hd {ws:List Nat} {L w:Nat} (Qz:∀x ∈ ws,x≤L) (pr:cellsW ws=2^L) (hw:w≤L):startW ws (w+1)≤2^L:=by
  rw[←pr, ←lY ws Qz];exact fH ws Om
theorem QA {L:Nat} {ws r dt:List Nat} (BM:L≤11) (hw:∀w ∈ ws,w≤L) (hr:r.length=16) (kt:∀w,0<w→w≤L→r.getD w 0=startW ws w) (pr:cellsW ws=2^L) (hdt:dt.length=2048):jV r ws dt:=by
  have hLL:(2:Nat)^L≤2^11:=Nat.pow_le_pow_right Om BM;have U1:∀w,L<w→ws.count w=0:=fun w h=>List.count_eq_zero.2 fun hm=>by have:=hw w hm;omega
  have BN:∀w v,S5 r ws w v→w≤L∧startW ws w≤v∧v<startW ws (w+1):=fun w v h=>by
    rcases Nat.lt_or_ge L w with h'|h'
    · have:=h.2.2;rw[U1 w h'] at this;have:=h.2.1;omega
    · have h1:=h.2.1;have h2:=h.2.2;rw[kt w h.1 h'] at h1 h2;exact⟨h',h1,by rw[gF h.1];exact h2⟩
  refine⟨hr,fun w h=>by have:=hw w h;omega,fun w h0 yo=>?_,fun w w' v h1 h2=>?_⟩
  · have h':=hw w yo;rw[kt w h0 h', ←gF h0];have:=Hd hw pr h';omega
  · obtain⟨_,a1,a2⟩:=BN w v h1;obtain⟨_,b1,b2⟩:=BN w' v h2;rcases Nat.lt_trichotomy w w' with h|h|h
    · have:=fH ws (show w+1≤w' by omega);omega
    · exact h
    · have:=fH ws (show w'+1≤w by omega);omega
structure vu (L:Nat) (ws:List Nat) (n:Nat) (R D F:List Nat):Prop where
  eq:fillT L n (ws.drop n) R D=F
  ok:jV R (ws.drop n) D
  len:D.length=2048
theorem vu.skip {L n:Nat} {ws R D F:List Nat} (h:vu L ws n R D F) (hn:n<ws.length) (h0:ws.getD n 0=0):vu L ws (n+1) R D F:=by
  have e:=uo hn;rw[h0] at e;have h1:=h.eq;have h2:=h.ok;rw[e] at h1 h2;unfold fillT at h1;rw[if_pos rfl] at h1;exact⟨h1,h2.skip,h.len⟩
theorem vu.room {L n:Nat} {ws R D F:List Nat} (h:vu L ws n R D F) (hn:n<ws.length) (h0:ws.getD n 0≠0):R.getD (ws.getD n 0) 0+2^(ws.getD n 0-1)≤2048∧ws.getD n 0<16:=by
  have h2:=h.ok;rw[uo hn] at h2;have:=h2.Hc Om;rw[h.len] at this;exact⟨this,h2.S6 _ List.mem_cons_self⟩
theorem vu.step {L n:Nat} {ws R D F:List Nat} (h:vu L ws n R D F) (hn:n<ws.length) (h0:ws.getD n 0≠0):vu L ws (n+1) (R.set (ws.getD n 0) (R.getD (ws.getD n 0) 0+2^(ws.getD n 0-1))) (cG D (R.getD (ws.getD n 0) 0) (List.replicate (2^(ws.getD n 0-1)) (L+1-ws.getD n 0+256*n))) F:=by
  have h1:=h.eq;have h2:=h.ok;rw[uo hn] at h1 h2;unfold fillT at h1;rw[if_neg h0] at h1;have hl:(cG D (R.getD (ws.getD n 0) 0) (List.replicate (2^(ws.getD n 0-1)) (L+1-ws.getD n 0+256*n))).length=D.length:=au (by rw[List.length_replicate];exact h2.Hc Om);exact⟨h1,h2.step Om hl,by rw[hl];exact h.len⟩
theorem vu.done {L n:Nat} {ws R D F:List Nat} (h:vu L ws n R D F) (hn:ws.length≤n):D=F:=by
  have h1:=h.eq;rwa [List.drop_of_length_le hn] at h1
theorem zm (D:List Nat) (a e:Nat):cG D a (List.replicate 0 e)=D:=by simp[cG]
theorem py {D:List Nat} {a i e:Nat} (h:a+i<D.length):(cG D a (List.replicate i e)).set (a+i) e=cG D a (List.replicate (i+1) e):=by
  have l1:(cG D a (List.replicate i e)).length=D.length:=au (by rw[List.length_replicate];omega);have l2:(cG D a (List.replicate (i+1) e)).length=D.length:=au (by rw[List.length_replicate];omega);refine uq (d:=0) (u:=D.length) (fun j hj=>?_) (by rw[List.length_set,l1,l2]) (by rw[List.length_set,l1];exact Nat.le_refl _);rw[ij Om,qc (by rw[List.length_replicate];omega),qc (by rw[List.length_replicate];omega),List.length_replicate,List.length_replicate];by_cases e1:a+i=j
  · rw[if_pos e1,if_pos Om,sQ Om]
  · rw[if_neg e1];by_cases e2:a≤j∧j<a+i
    · rw[if_pos e2,if_pos Om,sQ Om,sQ Om]
    · rw[if_neg e2,if_neg Om]
theorem DV {n:Nat} (h:n<256):n&&&255=n:=by
  have:=Nat.and_two_pow_sub_one_eq_mod n 8;rw[Nat.mod_eq_of_lt h] at this;exact this
theorem mE (n:Nat):n&&&15=n%16:=Nat.and_two_pow_sub_one_eq_mod n 4
theorem adh (n:Nat):n&&&3=n%4:=Nat.and_two_pow_sub_one_eq_mod n 2
theorem iF (n:Nat):n&&&7=n%8:=Nat.and_two_pow_sub_one_eq_mod n 3
theorem wX (n:Nat):n&&&31=n%32:=Nat.and_two_pow_sub_one_eq_mod n 5
theorem adi (n:Nat):n&&&65535=n%65536:=Nat.and_two_pow_sub_one_eq_mod n 16
theorem qb.at_ {xs bs:List Nat} {len p p':Nat} (h:qb xs len p bs) (e:p'=p):qb xs len p' bs:=e▸h
theorem BT {t n r:Nat} (h:t=2^(n-1)) (h1:r<t) (h2:1≤r):2≤n∧t/2^1=2^(n-1-1):=by
  have hn:2≤n:=Classical.byContradiction fun hn=>by
    have e:n-1=0:=Om;rw[e,Nat.pow_zero] at h;omega
  refine⟨hn,?_⟩;obtain⟨m,rfl⟩:∃m,n=m+2:=⟨n-2,Om⟩;rw[h,show m+2-1=m+1 by omega,show m+1-1=m by omega,Nat.pow_succ];omega
theorem Kk {n:Nat} (h:1≤n):2^n=2*2^(n-1):=by
  obtain⟨m,rfl⟩:∃m,n=m+1:=⟨n-1,Om⟩;rw[Nat.pow_succ,Nat.add_sub_cancel,Nat.mul_comm]
theorem sU (w x c:Nat) (h:w=x/2^c):w/2^2=x/2^(c+2):=by rw[h,Nat.div_div_eq_div_mul, ←Nat.pow_add]
theorem wY {w x c:Nat} (h:w=x/2^c) (hx:x<4294967296):w<4294967296:=by
  have:=Nat.div_le_self x (2^c);omega
theorem Be.congr {dt:List Nat} {L:Nat} {cd cd':Nat→Nat × Nat} {S S':Nat→Prop} (h:Be dt L cd S) (h1:∀c,S' c→S c∧cd c=cd' c):Be dt L cd' S':=
  ⟨h.L1,h.L16,fun c hc=>by rw[←(h1 c hc).2];exact h.one c (h1 c hc).1,fun c hc v hv he=>by rw[←(h1 c hc).2] at he ⊢;exact h.at_ c (h1 c hc).1 v hv he⟩
def Has (ls:List Nat) (c:Nat):Prop:=1≤ls.getD c 0
theorem U2 {ls r dt:List Nat} {L last:Nat} (h:HW ls L last) (hw:iE ls) (he:iW ls) (hr:r.length=16) (kt:∀w,0<w→w≤L→r.getD w 0=startW (kR ls L last) w) (hdt:dt.length=2048):
    Be (fillT L 0 (kR ls L last) r dt) L (um ls) (Has ls)∧(fillT L 0 (kR ls L last) r dt).length=2048:=by
  have hL:=h.L11 hw;have hlen:=u4 h;have hl:=h.lt;have BC:=hw.1;obtain⟨h1,h2⟩:=wU (ws:=kR ls L last) (r:=r) (dt:=dt) h.L1 hL Om Ai hr kt (by rw[lY _ Ai];exact pt h hw hL) hdt;refine⟨h1.congr fun c hc=>?_,h2⟩;obtain⟨h3,h4⟩:=Qy h hL he hc;refine⟨⟨Om,?_⟩,h3⟩;have h5:=h.FL c;have h6:1≤ls.getD c 0:=hc;rw[BO h h4];unfold sJ;rw[if_neg Om];omega
theorem dS.ofBits {xs dt ls t:List Nat} {k len L tt:Nat} (hT:Be dt L (um ls) (Has ls)) (hb:Bytes xs) (ht:4≤tt) (ha:∀c ∈ t,Has ls c) (hl:len=tN (um ls) t/8+1) (hv:tailV xs k len=2^tN (um ls) t+bitsV (codeBits ls t)):
    dS xs k len (um ls) (Has ls) (BR.init tt xs k len) t∧0<xs.getD (k+(len-1)) 0:=by
  have h1:=pn ls t fun c hc=>(hT.one c (ha c hc)).2.2.2
  rw[h1] at hv;obtain⟨h2,h3⟩:=Pos.sF (t:=tt) hb ht hl (FE hT t ha) hv;exact⟨⟨h2,ha⟩,h3⟩
theorem rA {a b:List Nat} {i:Nat} (h:a.length≤i):(a++b).getD i 0=b.getD (i-a.length) 0:=by
  simp only[List.getD_eq_getElem?_getD];rw[List.getElem?_append_right h]
theorem DW {a b:List Nat} {i:Nat} (h:i<a.length):(a++b).getD i 0=a.getD i 0:=by
  simp only[List.getD_eq_getElem?_getD];rw[List.getElem?_append_left h]
inductive cK:Nat→List Int→List Nat→Prop
  |done:cK 0 [] []
  |num (left:Nat) (n:Int) (cs:List Int) (bits:List Nat):n≠0→ -1≤n→n.natAbs≤left→cK (left-n.natAbs) cs bits→cK left (n::cs) (fp (left+1) (n+1).toNat++bits)
  |zer (left z:Nat) (c:Int) (cs:List Int) (bits:List Nat):0<left→c≠0→cK left (c::cs) bits→cK left (0::(List.replicate z 0++c::cs)) (fp (left+1) 1++(bN z++bits))
theorem cK.bits {l:Nat} {cs:List Int} {E:List Nat} (h:cK l cs E):jt E:=by
  induction h with
  |done=>exact fun x hx=>by cases hx
  |num l n cs b h0 h1 hl hd ih=>exact jt.app (nf _ _) ih
  |zer l z c cs b h0 hc hd ih=>exact jt.app (nf _ _) (jt.app (jo _) ih)
theorem cK.inv {left:Nat} {cs:List Int} {E:List Nat} (h:cK left cs E) (h0:0<left):∃n t b,E=fp (left+1) (n+1).toNat++b∧cs=n::t∧ -1≤n∧n.natAbs≤left∧
    ((n≠0∧cK (left-n.natAbs) t b)∨(n=0∧∃z c t2 b2,b=bN z++b2∧t=List.replicate z 0++c::t2∧cK left (c::t2) b2)):=by
  cases h with
  |done=>omega
  |num l n t b h1 h2 h3 h4=>exact⟨n,t,b,rfl,rfl,h2,h3,.inl ⟨h1,h4⟩⟩
  |zer l z c t b h1 h2 h3=>exact⟨0,_,_,rfl,rfl,Om,Oi,.inr ⟨rfl,z,c,t,b,rfl,rfl,h3⟩⟩
theorem cK.QB {cs:List Int} {E:List Nat} {left:Nat} (h:cK left cs E) (h0:left=0):E=[]∧cs=[]:=by
  cases h with
  |done=>exact⟨rfl,rfl⟩
  |num l n t b h1 h2 h3 h4=>omega
  |zer l z c t b h1 h2 h3=>omega
theorem cK.U3 {l:Nat} {cs:List Int} {E:List Nat} (h:cK l cs E):l<128→E.length≤10*cs.length:=by
  induction h with
  |done=>intro _;simp
  |num l n cs b h0 h1 hl hd ih=>
    intro h9;have h8:=(lV (cl:=l+1) (v:=(n+1).toNat)).2;have h7:aj (l+1)≤8:=cW Om;have:=ih Om;simp only[List.length_append,List.length_cons];omega
  |zer l z c cs b h0 hc hd ih=>
    intro h9;have h8:=(lV (cl:=l+1) (v:=1)).2;have h7:aj (l+1)≤8:=cW Om;have:=ih h9;have hz:=qd z;simp only[List.length_append,List.length_cons,List.length_replicate] at this ⊢;omega
def BU (S:Nat) (cs:List Int) (pz:Bool) (left i:Nat) (E:List Nat):Prop:=
  (pz=false∧∀rest,cK left (cs.drop i) rest→cK S cs (E++rest))∨(pz=true∧∀z c t b,cs.drop i=List.replicate z 0++c::t→c≠0→cK left (c::t) b→cK S cs (E++(bN z++b)))
theorem BU.begin (S:Nat) (cs:List Int):BU S cs false S 0 []:=.inl ⟨rfl,fun rest h=>by simpa using h⟩
theorem qe {xs:List Int} {i:Nat} (h:i<xs.length):xs.drop i=xs.getD i 0::xs.drop (i+1):=by rw[List.drop_eq_getElem_cons h];simp[h]
theorem u7 {xs:List Int} {i:Nat}:∀z,(∀j,j<z→xs.getD (i+j) 0=0)→i+z≤xs.length→xs.drop i=List.replicate z 0++xs.drop (i+z)
  |0,_,_=>by simp
  |z+1,h,hl=>by
    rw[u7 z (fun j hj=>h j Om) Om,qe (i:=i+z) Om,h z Om,List.replicate_succ',List.append_assoc]
    rfl
theorem BU.num {S left i:Nat} {cs:List Int} {E:List Nat} {n:Int} (h:BU S cs false left i E) (hi:i<cs.length) (hn:cs.getD i 0=n) (h0:n≠0) (h1: -1≤n) (hl:n.natAbs≤left):BU S cs false (left-n.natAbs) (i+1) (E++fp (left+1) (n+1).toNat):=by
  rcases h with ⟨_,h⟩|⟨h,_⟩
  · refine .inl ⟨rfl,fun rest hr=>?_⟩;rw[List.append_assoc];refine h _ ?_;rw[qe hi,hn];exact cK.num left n _ rest h0 h1 hl hr
  · cases h
theorem BU.zero {S left i:Nat} {cs:List Int} {E:List Nat} (h:BU S cs false left i E) (hi:i<cs.length) (hn:cs.getD i 0=0) (h0:0<left):BU S cs true left (i+1) (E++fp (left+1) 1):=by
  rcases h with ⟨_,h⟩|⟨h,_⟩
  · refine .inr ⟨rfl,fun z c t b e hc hr=>?_⟩;rw[List.append_assoc];refine h _ ?_;rw[qe hi,hn,e];exact cK.zer left z c t b h0 hc hr
  · cases h
theorem BU.run {S left i z:Nat} {cs:List Int} {E:List Nat} (h:BU S cs true left i E) (hi:i+z<cs.length) (hz:∀j,j<z→cs.getD (i+j) 0=0) (hc:cs.getD (i+z) 0≠0):BU S cs false left (i+z) (E++bN z):=by
  rcases h with ⟨h,_⟩|⟨_,h⟩
  · cases h
  · refine .inl ⟨rfl,fun rest hr=>?_⟩;rw[List.append_assoc];have e:=u7 z hz Om;rw[qe hi] at e hr;exact h z _ _ rest e hc hr
theorem BU.done {S:Nat} {cs:List Int} {pz:Bool} {i:Nat} {E:List Nat} (h:BU S cs pz 0 i E) (hp:pz=false) (hi:i=cs.length):cK S cs E:=by
  rcases h with ⟨_,h⟩|⟨h1,_⟩
  · have:=h [] (by rw[hi,List.drop_length];exact cK.done);simpa using this
  · rw[hp] at h1;cases h1
def Al (L:Nat) (pz:Bool) (rem cn len:Nat):Prop:=len+(if 2^L≤rem then 1 else 0)+(if pz=true then 1 else 0)≤5+(L+1)*cn
theorem zn {L rem v:Nat} (hL:L=5∨L=6) (h1:1≤rem) (h2:rem≤2^L+1) (hv:v≤rem):(fp rem v).length≤L+1∧(rem<2^L→(fp rem v).length≤L)∧(v≤2→(fp rem v).length≤L):=by
  have h3:=(lV (cl:=rem) (v:=v)).2;have hz:2^(L+1)=2*2^L:=by rw[Nat.pow_succ,Nat.mul_comm]
  have h4:aj rem≤L+1:=cW (by rcases hL with rfl|rfl<;>omega);have h5:rem<2^L→aj rem≤L:=fun h=>cW h
  refine⟨Om,fun h=>by have:=h5 h;omega,fun x8=>?_⟩;rcases Nat.lt_or_ge rem (2^L) with h|h
  · have:=h5 h;omega
  · have h6:aj rem=L+1:=jU (by rw[Nat.add_sub_cancel];exact h) (by rcases hL with rfl|rfl<;>omega) Om;unfold fp;rw[if_pos (by rw[h6];rcases hL with rfl|rfl<;>omega),bl,h6];omega
theorem Al.num {L rem cn len n:Nat} (h:len+(if 2^L≤rem then 1 else 0)≤5+(L+1)*cn+1) (hL:L=5∨L=6) (hr:rem≤2^L+1) (h1:1≤rem) (hn:1≤n) (DO:n+1≤rem) {v:Nat} (hv:v≤n+1):Al L false (rem-n) (cn+1) (len+(fp rem v).length):=by
  obtain⟨c1,c2,c3⟩:=zn (v:=v) hL h1 hr Om;unfold Al;have e:(L+1)*(cn+1)=(L+1)*cn+(L+1):=Nat.mul_succ _ _;rw[e,if_neg (show¬(false=true) by decide)];by_cases hs:2^L≤rem
  · rw[if_pos hs] at h;by_cases Dp:2^L≤rem-n
    · rw[if_pos Dp];have:=c3 Om;omega
    · rw[if_neg Dp];omega
  · rw[if_neg hs] at h;rw[if_neg Om];have:=c2 Om;omega
theorem Al.zero {L rem cn len:Nat} (h:Al L false rem cn len) (hL:L=5∨L=6) (hr:rem≤2^L+1) (h1:1≤rem):Al L true rem (cn+1) (len+(fp rem 1).length):=by
  obtain⟨c1,c2,c3⟩:=zn (v:=1) hL h1 hr h1;have:=c3 Om;unfold Al at h ⊢;have e:(L+1)*(cn+1)=(L+1)*cn+(L+1):=Nat.mul_succ _ _;rw[e,if_pos rfl];rw[if_neg (show¬(false=true) by decide)] at h;omega
theorem Al.run {L rem cn len:Nat} (h:Al L true rem cn len) (z:Nat):len+(bN z).length+(if 2^L≤rem then 1 else 0)≤5+(L+1)*(cn+z)+1:=by
  unfold Al at h;rw[if_pos rfl] at h;have hz:=qd z;have e:(L+1)*(cn+z)=(L+1)*cn+(L*z+z):=by rw[Nat.mul_add,Nat.succ_mul L z]
  have e2:0≤L*z:=Nat.zero_le _;rcases Nat.eq_zero_or_pos L with hL|hL
  · subst hL;simp at*;omega
  · have:1*z≤L*z:=Nat.mul_le_mul_right _ hL;omega
theorem Al.rB {L rem cn len:Nat} (h:Al L false rem cn len):len+(if 2^L≤rem then 1 else 0)≤5+(L+1)*cn+1:=by
  unfold Al at h;rw[if_neg (show¬(false=true) by decide)] at h;omega
structure ja (log:Nat) (T:List Cell) (text ys:List Nat):Prop where
  ex:∃A,ju log T text A∧(∀i,i<text.length→text.length≤i+2→1≤(T.getD (A.getD i 0) (0,0,0)).2.1)∧Bytes ys∧ys.length=(2*log+fN T A)/8+1∧tailV ys 0 ((2*log+fN T A)/8+1)=2^(2*log+fN T A)+((A.getD 0 0*2^log+A.getD 1 0)*2^fN T A+fR T A)
structure gl (log:Nat) (cs:List Int) (text ys:List Nat):Prop where
  cB:cb log cs
  ex:∃E H B,ys=H++B∧cK (2^log) cs E∧Bytes H∧H.length=(4+E.length+7)/8∧tailV H 0 ((4+E.length+7)/8)=lowV (eF (log-5) 4++E)∧ja log (dY log cs) text B
theorem uy {log:Nat} {T:List Cell} {text A:List Nat} (hF:ju log T text A):(A.getD 0 0*2^log+A.getD 1 0)*2^fN T A+fR T A<2^(2*log+fN T A):=by
  have h1:fR T A<2^fN T A:=by have:=ju.UO hF _ 0 rfl;rwa [List.drop_zero] at this
  have h0:0<2^log:=Nat.two_pow_pos _;have Kl:∀i,A.getD i 0<2^log:=fun i=>by
    rcases Nat.lt_or_ge i A.length with hi|hi
    · exact hF.lt _ (by simp[List.getD_eq_getElem?_getD,hi])
    · rw[List.getD_eq_getElem?_getD,List.getElem?_eq_none hi];exact h0
  have ha:=Kl 0;have hb:=Kl 1;generalize A.getD 0 0=a at*;generalize A.getD 1 0=b at*;have e:2^(2*log+fN T A)=(2^log*2^log)*2^fN T A:=by rw[Nat.pow_add,Nat.two_mul,Nat.pow_add]
  have h3:(a+1)*2^log≤2^log*2^log:=Nat.mul_le_mul_right _ ha;have h2:(a*2^log+b+1)*2^fN T A≤(2^log*2^log)*2^fN T A:=Nat.mul_le_mul_right _ (by rw[Nat.add_mul,Nat.one_mul] at h3;omega);rw[Nat.add_mul _ 1,Nat.one_mul] at h2;rw[e];omega
theorem ja.last {log:Nat} {T:List Cell} {text ys:List Nat} (h:ja log T text ys):0<ys.length∧ys.getD (ys.length-1) 0≠0∧Bytes ys:=by
  obtain⟨A,h1,_,h2,h3,h4⟩:=h.ex;have:=(Pos.sF (k:=0) (t:=4) h2 Om rfl (uy h1) h4).2;rw[Nat.zero_add, ←h3] at this;exact⟨Om,Om,h2⟩
theorem gl.bytes {log:Nat} {cs:List Int} {ws b:List Nat} (h:gl log cs ws b):Bytes b:=by
  obtain⟨E,H,B,e,h1,h2,h3,h4,h5⟩:=h.ex;have hB:=h5.last.2.2;exact e▸fun x hx=>(List.mem_append.1 hx).elim (h2 x) (hB x)
theorem gl.read {log:Nat} {cs:List Int} {ws b:List Nat} (h:gl log cs ws b):∃E,cK (2^log) cs E∧qb b b.length 0 (eF (log-5) 4++E)∧0<(b.drop ((4+E.length+7)/8)).length∧(b.drop ((4+E.length+7)/8)).getD ((b.drop ((4+E.length+7)/8)).length-1) 0≠0∧ja log (dY log cs) ws (b.drop ((4+E.length+7)/8)):=by
  have O6:=h.bytes;obtain⟨E,H,B,e,h1,h2,h3,h4,h5⟩:=h.ex;have hB:=h5.last;have e2:b.drop ((4+E.length+7)/8)=B:=by rw[e, ←h3,List.drop_append_of_le_length (Nat.le_refl _),List.drop_length,List.nil_append]
  refine⟨E,h1,?_,by rw[e2];exact hB.1,by rw[e2];exact hB.2.1,by rw[e2];exact h5⟩;have hle:(eF (log-5) 4++E).length=4+E.length:=by rw[List.length_append,bl]
  have z9:b.length=H.length+B.length:=by rw[e,List.length_append]
  refine qb.UT (by rw[hle,z9,h3];omega) ?_;have e1:=uh O6 0 (m:=H.length) (n:=b.length) Om;have e3:tailV b 0 H.length=tailV H 0 H.length:=jl _ fun i hi=>by rw[e];simp[List.getD_eq_getElem?_getD,List.getElem?_append_left hi]
  rw[e3,h3,h4] at e1;have h6:jt (eF (log-5) 4++E):=jt.app (jm _ 4) h1.bits;have hd:2^(eF (log-5) 4++E).length∣2^(8*((4+E.length+7)/8)):=Nat.pow_dvd_pow 2 (by rw[hle];omega);rw[←Nat.mod_mod_of_dvd _ hd,e1,Nat.mod_eq_of_lt (vI h6)]
def eY {α:Type} (size m:Nat) (all:Nat→α) (G:Nat→α) (k j:Nat):Prop:=∀i,(i<k∨(size-m≤i∧i<size-m+j))→G ((kC size m).getD i 0)=all i
section
variable {α:Type} {size m k j:Nat} {all G G':Nat→α}
theorem eY.zero:eY size m all G 0 0:=fun i h=>by omega
theorem eY.low (h:eY size m all G 0 j) (hs:po size m) (hj:j<m) (e:G' (size-1-j)=all (size-m+j)) (o:∀u,u≠size-1-j→G' u=G u):eY size m all G' 0 (j+1):=fun i hi=>by
  have hle:=hs.le;have hb:=hs.back hj;by_cases ei:i=size-m+j
  · subst ei;rw[hb];exact e
  · rw[o _ fun he=>ei (hs.inj Om Om (he.trans hb.symm))];exact h i Om
theorem eY.flat (h:eY size m all G k m) (hs:po size m) (hk:k<size-m) {p:Nat} (hp:p=(mP size m).getD k 0) (e:G' p=all k) (o:∀u,u≠p→G' u=G u):eY size m all G' (k+1) m:=fun i hi=>by
  have hle:=hs.le;rw[←hs.seq hk] at hp;by_cases ei:i=k
  · subst ei;rw[←hp];exact e
  · rw[o _ fun he=>ei (hs.inj Om Om (he.trans hp))];exact h i Om
theorem eY.done (h:eY size m all G (size-m) m) (hs:po size m) {u:Nat} (hu:u<size):G u=all ((kC size m).idxOf u):=by
  obtain⟨h1,h2⟩:=hs.met hu;have hle:=hs.le;have:=h ((kC size m).idxOf u) Om;rwa [h2] at this
end
def tW (size m k:Nat):Nat:=(mP size m).getD (k%(size-m)) 0
section
variable {size m k:Nat}
theorem Km (h:po size m):tW size m 0=0:=by unfold tW;rw[Nat.zero_mod];exact h.first
theorem Kn (h:po size m):tW size m (size-m)=0:=by unfold tW;rw[Nat.mod_self];exact h.first
theorem U4 (h:po size m) (k:Nat):tW size m k+m<size:=by
  have hle:=h.le;have hk:k%(size-m)<size-m:=Nat.mod_lt _ Om;unfold tW;have hl:=h.len;have:(mP size m).getD (k%(size-m)) 0 ∈ mP size m:=by simp[List.getD_eq_getElem?_getD,hl,hk]
  simp only[mP,List.mem_filter,decide_eq_true_eq] at this;exact this.2
theorem Ko (h:po size m) (k:Nat):goM size m size ((tW size m k+fq size)%size)=tW size m (k+1):=by
  have hle:=h.le;unfold tW;rw[adf h (Nat.mod_lt _ Om),Nat.mod_add_mod]
theorem QC (h:po size m) (hk:k<size-m):tW size m k=(mP size m).getD k 0:=by unfold tW;rw[Nat.mod_eq_of_lt hk]
end
def jW (cs:List Int) (s:Nat):Nat:=((cs.map fun n=>(-n).toNat).take s).sum
def dT (cs:List Int) (s:Nat):Nat:=((cs.map Int.toNat).take s).sum
theorem wZ:∀(xs:List Nat) (b s k:Nat),k<xs.getD s 0→(flatC b xs).getD ((xs.take s).sum+k) 0=b+s
  |[],b,s,k,h=>by simp at h
  |n::xs,b,0,k,h=>by
    have hk:k<n:=by simpa using h
    simp only[List.take_zero,List.sum_nil,Nat.zero_add,flatC,List.getD_eq_getElem?_getD];rw[List.getElem?_append_left (by rw[List.length_replicate];exact hk),List.getElem?_replicate,if_pos hk];rfl
  |n::xs,b,s+1,k,h=>by
    have hk:k<xs.getD s 0:=by simpa using h
    have ih:=wZ xs (b+1) s k hk;simp only[List.take_succ_cons,List.sum_cons,flatC,List.getD_eq_getElem?_getD] at ih ⊢;rw[List.getElem?_append_right (by rw[List.length_replicate];omega),List.length_replicate,show n+(xs.take s).sum+k-n=(xs.take s).sum+k by omega,ih];omega
theorem rC {xs:List Nat} {s:Nat}:(xs.take (s+1)).sum=(xs.take s).sum+xs.getD s 0:=ed
section
variable {cs:List Int} {s:Nat}
theorem fu:jW cs (s+1)=jW cs s+(-(cs.getD s 0)).toNat:=by
  unfold jW;rw[rC,ia rfl]
theorem gf:dT cs (s+1)=dT cs s+(cs.getD s 0).toNat:=by
  unfold dT;rw[rC,ia rfl]
theorem uz:jW cs 0=0:=rfl
theorem kS (h:cs.length≤s):jW cs s=(bQ cs).length:=by unfold jW;rw[List.take_of_length_le (by simpa using h),lF]
theorem zo (h:cs.length≤s):dT cs s=(ng cs).length:=by unfold dT;rw[List.take_of_length_le (by simpa using h),n9]
theorem oe:jW cs s≤(bQ cs).length:=by unfold jW;rw[lF];exact mD _ _
theorem BV:dT cs s≤(ng cs).length:=by unfold dT;rw[n9];exact mD _ _
end
def lZ (cs:List Int):List Nat:=ng cs++bQ cs
theorem He {cs:List Int} {s k:Nat} (h:k<(cs.getD s 0).toNat):(lZ cs).getD (dT cs s+k) 0=s:=by
  have h1:=wZ (cs.map Int.toNat) 0 s k (by rw[ia rfl];exact h);have h2:dT cs s+k<(ng cs).length:=by
    have:=BV (cs:=cs) (s:=s+1);rw[gf] at this;omega
  unfold lZ;simp only[List.getD_eq_getElem?_getD] at h1 ⊢;rw[List.getElem?_append_left h2];simpa [dT,ng] using h1
theorem Kp {cs:List Int} {s:Nat} (h:cs.getD s 0= -1):(lZ cs).getD ((ng cs).length+jW cs s) 0=s:=by
  have h1:=wZ (cs.map fun n=>(-n).toNat) 0 s 0 (by rw[ia rfl,h];decide);unfold lZ;simp only[List.getD_eq_getElem?_getD] at h1 ⊢;rw[List.getElem?_append_right Om,show(ng cs).length+jW cs s-(ng cs).length=jW cs s by omega];simpa [jW,bQ] using h1
section
variable {log:Nat} {cs:List Int}
theorem DX {u:Nat} (hu:u<2^log):(dm log cs).getD u 0=(lZ cs).getD ((kC (2^log) (bQ cs).length).idxOf u) 0:=by
  unfold dm;rw[DQ hu];rfl
theorem QD (h:cb log cs) {s:Nat} (hs:cs.getD s 0= -1):jW cs s<(bQ cs).length:=by
  have:=oe (cs:=cs) (s:=s+1);rw[fu,hs] at this;have e:(-(-1:Int)).toNat=1:=rfl;omega
theorem cb.at_ (h:cb log cs) (s:Nat): -1≤cs.getD s 0∧cs.getD s 0<2^log:=by
  rcases Nat.lt_or_ge s cs.length with hs|hs
  · have hm:cs.getD s 0 ∈ cs:=by simp[List.getD_eq_getElem?_getD,hs]
    exact⟨h.ge _ hm,h.lt _ hm⟩
  · rw[List.getD_eq_getElem?_getD,List.getElem?_eq_none hs];have:(0:Int)<2^log:=by exact_mod_cast Nat.two_pow_pos log
    simpa using this
theorem Hg (h:cb log cs) {u:Nat} (hu:u<2^log):(dm log cs).getD u 0<cs.length:=by
  obtain⟨s,k,_,h2,h3,_⟩:=lX h hu;omega
end
def sm (W:Nat→Nat):Nat→Nat
  |0=>0
  |n+1=>sm W n+W n
theorem cD {W W':Nat→Nat}:∀{n:Nat},(∀i,i<n→W i=W' i)→sm W n=sm W' n
  |0,_=>rfl
  |n+1,h=>by simp only[sm];rw[cD fun i hi=>h i Om,h n Om]
structure Tr (N:Nat) (C:Nat→Nat) (m p u c S B0 B:Nat) (CI PL PI:Nat→Nat):Prop where
  num:N-u+c=2*m+p∧u≤N∧c≤m∧p≤2
  mY:∀i j,i≤j→j<N→C j≤C i
  pl:∀i,u≤i→i<N→PL i≤m∧(p=0→PL i<m)
  pi:∀a,a<c→a<PI a∧PI a≤m∧(p=0→PI a<m)
  ml:∀i j,u≤i→i≤j→j<N→PL j≤PL i
  mi:∀a b,a≤b→b<c→PI a≤PI b
  w:∀W V:Nat→Nat,(∀i,u≤i→i<N→2*W i=V (PL i))→(∀a,a<c→2*V a=V (PI a))→2*(sm W N+sm V c)=2*(sm W u+sm V m)+p*V m
  bb:B0≤B
  c1:∀i,u≤i→i<N→C i≤B∧(PL i<m→C i≤B0)∧(PL i=m→C i≤S)
  c2:∀a,a<c→CI a≤B∧(PI a<m→CI a≤B0)∧(PI a=m→CI a≤S)
  c3:∀i,i<u→B≤C i
  c4:∀a,c≤a→a<m→B≤CI a
  cs:p*B0≤S∧S≤p*B∧(0<p→B≤S)
  cm:∀a b,a≤b→b<m→CI a≤CI b
  ti:∀a,a<m→CI a≤2*B0
  g1:∀i,u≤i→i<N→PL i<c→PI (PL i)<m→2*C i≤CI (PI (PL i))
  g2:∀a,a<c→PI a<c→PI (PI a)<m→2*CI a≤CI (PI (PI a))
  q1:∀i,u≤i→i<N→PL i<m→C i≤CI (PL i)
  q2:∀a,a<c→PI a<m→CI a≤CI (PI a)
  ff:sm C u+sm CI m+S=sm C N+sm CI c
theorem Tr.begin {N:Nat} {C:Nat→Nat} (hs:∀i j,i≤j→j<N→C j≤C i) (CI PL PI:Nat→Nat):Tr N C 0 0 N 0 0 0 0 CI PL PI where
  num:=Om
  mY:=hs
  pl:=fun i h1 h2=>by omega
  pi:=fun a h=>by omega
  ml:=fun i j h1 h2 h3=>by omega
  mi:=fun a b h1 h2=>by omega
  w:=fun W V _ _=>by simp[sm]
  bb:=Nat.le_refl _
  c1:=fun i h1 h2=>by omega
  c2:=fun a h=>by omega
  c3:=fun i h=>Nat.zero_le _
  c4:=fun a h1 h2=>by omega
  cs:=Om
  cm:=fun a b h1 h2=>by omega
  ti:=fun a h=>by omega
  g1:=fun i h1 h2=>by omega
  g2:=fun a h=>by omega
  q1:=fun i h1 h2=>by omega
  q2:=fun a h=>by omega
  ff:=by simp[sm]
section
variable {N:Nat} {C:Nat→Nat} {m p u c S B0 B:Nat} {CI PL PI:Nat→Nat}
theorem Tr.leaf (h:Tr N C m p u c S B0 B CI PL PI) (hp:p≤1) (hu:0<u) (hc:c=m∨C (u-1)≤CI c):
    Tr N C m (p+1) (u-1) c (S+C (u-1)) B0 (C (u-1)) CI (fun i=>if i=u-1 then m else PL i) PI:=by
  have hn:=h.num;have hB:=h.c3 (u-1) Om;have hav:∀a,c≤a→a<m→C (u-1)≤CI a:=fun a h1 h2=>by
    rcases hc with hc|hc
    · omega
    · exact Nat.le_trans hc (h.cm c a h1 h2)
  have uP:=h.cs;have O6:=h.bb;have FN:∀i,u-1≤i→i<N→i≠u-1→u≤i:=fun i h1 h2 h3=>by omega
  constructor
  · omega
  · exact h.mY
  · intro i h1 h2;by_cases e:i=u-1
    · simp[e]
    · have:=h.pl i (FN i h1 h2 e) h2;simp only[if_neg e];exact⟨this.1,fun hz=>Om⟩
  · intro a ha;have:=h.pi a ha;exact⟨this.1,this.2.1,fun hz=>Om⟩
  · intro i j h1 h2 h3;by_cases e:i=u-1
    · by_cases e2:j=u-1
      · simp[e,e2]
      · simp only[if_neg e2,if_pos e];exact(h.pl j Om h3).1
    · simp only[if_neg e,if_neg (show j≠u-1 by omega)];exact h.ml i j Om h2 h3
  · exact h.mi
  · intro W V hW hV;have h1:=h.w W V (fun i S9 Bf=>by have:=hW i Om Bf;rwa [if_neg Om] at this) hV;have h2:=hW (u-1) (Nat.le_refl _) Om;simp only[if_true] at h2;have h3:sm W u=sm W (u-1)+W (u-1):=by rw[show u=(u-1)+1 by omega];rfl
    rw[Nat.add_mul,Nat.one_mul];omega
  · omega
  · intro i h1 h2;by_cases e:i=u-1
    · subst e;simp only[if_true];exact⟨Nat.le_refl _,fun hz=>Om,fun _=>Om⟩
    · have:=h.c1 i (FN i h1 h2 e) h2;simp only[if_neg e];exact⟨Om,this.2.1,fun hz=>by have:=this.2.2 hz;omega⟩
  · intro a ha;have:=h.c2 a ha;exact⟨Om,this.2.1,fun hz=>by have:=this.2.2 hz;omega⟩
  · intro i hi;exact h.mY i (u-1) Om Om
  · exact hav
  · have e1:p*B≤p*C (u-1):=Nat.mul_le_mul_left _ hB;rw[Nat.add_mul,Nat.add_mul,Nat.one_mul,Nat.one_mul];exact⟨Om,Om,fun _=>Om⟩
  · exact h.cm
  · exact h.ti
  · intro i h1 h2 h3 h4;by_cases e:i=u-1
    · simp only[if_pos e] at h3 h4;omega
    · simp only[if_neg e] at h3 h4 ⊢;exact h.g1 i (FN i h1 h2 e) h2 h3 h4
  · exact h.g2
  · intro i h1 h2 h3;by_cases e:i=u-1
    · simp only[if_pos e] at h3;omega
    · simp only[if_neg e] at h3 ⊢;exact h.q1 i (FN i h1 h2 e) h2 h3
  · exact h.q2
  · have h3:sm C u=sm C (u-1)+C (u-1):=by rw[show u=(u-1)+1 by omega];rfl
    have:=h.ff;omega
theorem Tr.inner (h:Tr N C m p u c S B0 B CI PL PI) (hp:p≤1) (yb:c<m) (hc:u=0∨CI c≤C (u-1)):
    Tr N C m (p+1) u (c+1) (S+CI c) B0 (CI c) CI PL (fun a=>if a=c then m else PI a):=by
  have hn:=h.num;have hB:=h.c4 c (Nat.le_refl _) yb;have hav:∀i,i<u→CI c≤C i:=fun i hi=>by
    rcases hc with hc|hc
    · omega
    · exact Nat.le_trans hc (h.mY i (u-1) Om Om)
  have uP:=h.cs;have O6:=h.bb;constructor
  · omega
  · exact h.mY
  · intro i h1 h2;have:=h.pl i h1 h2;exact⟨this.1,fun hz=>Om⟩
  · intro a ha;by_cases e:a=c
    · subst e;simp only[if_true];exact⟨yb,Nat.le_refl _,fun hz=>Om⟩
    · have:=h.pi a Om;simp only[if_neg e];exact⟨this.1,this.2.1,fun hz=>Om⟩
  · exact h.ml
  · intro a b h1 h2;by_cases e:b=c
    · by_cases e2:a=c
      · simp[e,e2]
      · simp only[if_neg e2,if_pos e];exact(h.pi a Om).2.1
    · simp only[if_neg e,if_neg (show a≠c by omega)];exact h.mi a b h1 Om
  · intro W V hW hV;have h1:=h.w W V hW (fun a ha=>by have:=hV a Om;rwa [if_neg Om] at this);have h2:=hV c Om;simp only[if_true] at h2;have h3:sm V (c+1)=sm V c+V c:=rfl;rw[Nat.add_mul,Nat.one_mul];omega
  · omega
  · intro i h1 h2;have:=h.c1 i h1 h2;exact⟨Om,this.2.1,fun hz=>by have:=this.2.2 hz;omega⟩
  · intro a ha;by_cases e:a=c
    · subst e;simp only[if_true];exact⟨Nat.le_refl _,fun hz=>Om,fun _=>Om⟩
    · have:=h.c2 a Om;simp only[if_neg e];exact⟨Om,this.2.1,fun hz=>by have:=this.2.2 hz;omega⟩
  · exact hav
  · intro a h1 h2;exact h.cm c a Om h2
  · have e1:p*B≤p*CI c:=Nat.mul_le_mul_left _ hB;rw[Nat.add_mul,Nat.add_mul,Nat.one_mul,Nat.one_mul];exact⟨Om,Om,fun _=>Om⟩
  · exact h.cm
  · exact h.ti
  · intro i h1 h2 h3 h4;by_cases e:PL i=c
    · simp only[if_pos e] at h4;omega
    · simp only[if_neg e] at h4 ⊢;exact h.g1 i h1 h2 Om h4
  · intro a h1 h2 h3;by_cases e:a=c
    · subst e;simp only[if_true] at h2;omega
    · simp only[if_neg e] at h2 h3 ⊢;by_cases e2:PI a=c
      · simp only[if_pos e2] at h3;omega
      · simp only[if_neg e2] at h3 ⊢;exact h.g2 a Om Om h3
  · exact h.q1
  · intro a h1 h2;by_cases e:a=c
    · simp only[if_pos e] at h2;omega
    · simp only[if_neg e] at h2 ⊢;exact h.q2 a Om h2
  · have h3:sm CI (c+1)=sm CI c+CI c:=rfl;have:=h.ff;omega
theorem Tr.node (h:Tr N C m 2 u c S B0 B CI PL PI):Tr N C (m+1) 0 u c 0 B B (fun a=>if a=m then S else CI a) PL PI:=by
  have hn:=h.num;have uP:=h.cs;have O6:=h.bb;have hti:∀a,a<m→CI a≤S:=fun a ha=>by have:=h.ti a ha;omega
  constructor
  · omega
  · exact h.mY
  · intro i h1 h2;have:=h.pl i h1 h2;exact⟨Om,fun _=>Om⟩
  · intro a ha;have:=h.pi a ha;exact⟨this.1,Om,fun _=>Om⟩
  · exact h.ml
  · exact h.mi
  · intro W V hW hV;have:=h.w W V hW hV;have h3:sm V (m+1)=sm V m+V m:=rfl;omega
  · exact Nat.le_refl _
  · intro i h1 h2;have:=h.c1 i h1 h2;have:=h.pl i h1 h2;exact⟨Om,fun _=>Om,fun hz=>Om⟩
  · intro a ha;have:=h.c2 a ha;have:=h.pi a ha;simp only[if_neg (show a≠m by omega)];exact⟨Om,fun _=>Om,fun hz=>Om⟩
  · exact h.c3
  · intro a h1 h2;by_cases e:a=m
    · simp only[if_pos e];exact uP.2.2 Om
    · simp only[if_neg e];exact h.c4 a h1 Om
  · omega
  · intro a b h1 h2;by_cases e:b=m
    · by_cases e2:a=m
      · simp[e,e2]
      · simp only[if_pos e,if_neg e2];exact hti a Om
    · simp only[if_neg e,if_neg (show a≠m by omega)];exact h.cm a b h1 Om
  · intro a ha;by_cases e:a=m
    · simp only[if_pos e];omega
    · simp only[if_neg e];have:=h.ti a Om;omega
  · intro i h1 h2 h3 h4;have hp:=h.pl i h1 h2;have lx:=h.c1 i h1 h2;by_cases e:PI (PL i)=m
    · simp only[if_pos e];have:=lx.2.1 Om;omega
    · simp only[if_neg e];exact h.g1 i h1 h2 h3 Om
  · intro a h1 h2 h3;have IL:=h.c2 a h1;simp only[if_neg (show a≠m by omega)];by_cases e:PI (PI a)=m
    · simp only[if_pos e];have:=IL.2.1 Om;omega
    · simp only[if_neg e];exact h.g2 a h1 h2 Om
  · intro i h1 h2 h3;by_cases e:PL i=m
    · simp only[if_pos e];exact(h.c1 i h1 h2).2.2 e
    · simp only[if_neg e];exact h.q1 i h1 h2 Om
  · intro a h1 h2;simp only[if_neg (show a≠m by omega)];by_cases e:PI a=m
    · simp only[if_pos e];exact(h.c2 a h1).2.2 e
    · simp only[if_neg e];exact h.q2 a h1 Om
  · have h3:sm (fun a=>if a=m then S else CI a) (m+1)=sm CI m+S:=by
      simp only[sm,if_true];rw[cD (W:=fun a=>if a=m then S else CI a) (W':=CI) fun i hi=>by simp only[if_neg (show i≠m by omega)]]
    have h4:sm (fun a=>if a=m then S else CI a) c=sm CI c:=cD fun i hi=>by simp only[if_neg (show i≠m by omega)]
    have:=h.ff;rw[h3,h4];omega
theorem Tr.congr (h:Tr N C m p u c S B0 B CI PL PI) {CI' PL' PI':Nat→Nat} (h1:∀a,a<m→CI' a=CI a) (h2:∀i,u≤i→i<N→PL' i=PL i) (h3:∀a,a<c→PI' a=PI a):Tr N C m p u c S B0 B CI' PL' PI':=by
  have hn:=h.num;constructor
  · exact hn
  · exact h.mY
  · intro i a b;rw[h2 i a b];exact h.pl i a b
  · intro a ha;rw[h3 a ha];exact h.pi a ha
  · intro i j a b d;rw[h2 i a Om,h2 j Om d];exact h.ml i j a b d
  · intro a b d e;rw[h3 a Om,h3 b e];exact h.mi a b d e
  · intro W V hW hV;exact h.w W V (fun i a b=>by rw[←h2 i a b];exact hW i a b) (fun a ha=>by rw[←h3 a ha];exact hV a ha)
  · exact h.bb
  · intro i a b;rw[h2 i a b];exact h.c1 i a b
  · intro a ha;rw[h3 a ha,h1 a Om];exact h.c2 a ha
  · exact h.c3
  · intro a b d;rw[h1 a d];exact h.c4 a b d
  · exact h.cs
  · intro a b d e;rw[h1 a Om,h1 b e];exact h.cm a b d e
  · intro a ha;rw[h1 a ha];exact h.ti a ha
  · intro i a b d e;rw[h2 i a b] at d e ⊢;rw[h3 _ d] at e ⊢;rw[h1 _ e];exact h.g1 i a b d e
  · intro a b d e;rw[h3 a b] at d e ⊢;rw[h3 _ d] at e ⊢;rw[h1 _ e,h1 a Om];exact h.g2 a b d e
  · intro i a b d;rw[h2 i a b] at d ⊢;rw[h1 _ d];exact h.q1 i a b d
  · intro a b d;rw[h3 a b] at d ⊢;rw[h1 _ d,h1 a Om];exact h.q2 a b d
  · rw[cD (W:=CI') (W':=CI) h1,cD (W:=CI') (W':=CI) fun a ha=>h1 a Om];exact h.ff
theorem Tr.fin (h:Tr N C m 0 u c S B0 B CI PL PI) (hm:m+1=N) (h1:1≤m):u=0∧c+1=m:=by
  have hn:=h.num;by_cases hc:c=m
  · have h2:=h.pi (m-1) Om;have h3:=h.num;have:=h2.2.2 rfl;omega
  · omega
end
structure Kq (N m:Nat) (PL PI DI DL:Nat→Nat):Prop where
  top:DI (m-1)=0
  Pd:∀a,a+1<m→DI a=DI (PI a)+1
  leaf:∀i,i<N→DL i=DI (PL i)+1
section
variable {N:Nat} {C:Nat→Nat} {m S B0 B:Nat} {CI PL PI DI DL:Nat→Nat}
theorem Kq.akx (hd:Kq N m PL PI DI DL) (h:Tr N C m 0 0 (m-1) S B0 B CI PL PI) (h1:1≤m):∀k a b,m-a≤k→a≤b→b<m→DI b≤DI a:=by
  intro k;induction k with
  |zero=>intro a b h2 h3 h4;omega
  |succ k ih=>
    intro a b h2 h3 h4;by_cases hb:b+1=m
    · rw[show b=m-1 by omega,hd.top];exact Nat.zero_le _
    · rw[hd.Pd a Om,hd.Pd b Om];have p1:=h.pi a Om;have p2:=h.pi b Om;have p3:=h.mi a b h3 Om;have:=ih (PI a) (PI b) Om p3 (p2.2.2 rfl);omega
theorem Kq.mono (hd:Kq N m PL PI DI DL) (h:Tr N C m 0 0 (m-1) S B0 B CI PL PI) (h1:1≤m) {i j:Nat} (Bg:i≤j) (hj:j<N):DL i≤DL j:=by
  rw[hd.leaf i Om,hd.leaf j hj];have p1:=h.ml i j (Nat.zero_le _) Bg hj;have p2:=h.pl i (Nat.zero_le _) Om;have:=hd.akx h h1 m (PL j) (PL i) Om p1 (p2.2 rfl);omega
theorem Kq.inner (hd:Kq N m PL PI DI DL) (h:Tr N C m 0 0 (m-1) S B0 B CI PL PI) (h1:1≤m):∀k a,DI a≤k→a<m→2^(DI a/2)*CI a≤CI (m-1):=by
  intro k;induction k using Nat.strongRecOn with
  |_ k ih=>
    intro a hk ha;by_cases e1:a+1=m
    · rw[show a=m-1 by omega,hd.top];simp
    · have d1:=hd.Pd a Om;have p1:=h.pi a Om;by_cases e2:PI a+1=m
      · have d2:DI a=1:=by rw[d1,show PI a=m-1 by omega,hd.top]
        have:=h.q2 a Om (p1.2.2 rfl);rw[show PI a=m-1 by omega] at this;rw[d2];simpa using this
      · have lt:=p1.2.2 rfl;have d2:=hd.Pd (PI a) Om;have p2:=h.pi (PI a) Om;have g:=h.g2 a Om Om (p2.2.2 rfl);have hi:=ih (DI (PI (PI a))) Om (PI (PI a)) (Nat.le_refl _) (p2.2.2 rfl);have e3:DI a/2=DI (PI (PI a))/2+1:=Om;rw[e3,Nat.pow_succ,Nat.mul_assoc];exact Nat.le_trans (Nat.mul_le_mul_left _ g) hi
theorem Kq.low (hd:Kq N m PL PI DI DL) (h:Tr N C m 0 0 (m-1) S B0 B CI PL PI) (h1:1≤m) {i:Nat} (hi:i<N):2^(DL i/2)*C i≤CI (m-1):=by
  have d1:=hd.leaf i hi;have p1:=h.pl i (Nat.zero_le _) hi;have lt:=p1.2 rfl;by_cases e2:PL i+1=m
  · have d2:DL i=1:=by rw[d1,show PL i=m-1 by omega,hd.top]
    have:=h.q1 i (Nat.zero_le _) hi lt;rw[show PL i=m-1 by omega] at this;rw[d2];simpa using this
  · have d2:=hd.Pd (PL i) Om;have p2:=h.pi (PL i) Om;have g:=h.g1 i (Nat.zero_le _) hi Om (p2.2.2 rfl);have Bf:=hd.inner h h1 _ (PI (PL i)) (Nat.le_refl _) (p2.2.2 rfl);have e3:DL i/2=DI (PI (PL i))/2+1:=Om;rw[e3,Nat.pow_succ,Nat.mul_assoc];exact Nat.le_trans (Nat.mul_le_mul_left _ g) Bf
theorem Tr.root (h:Tr N C m 0 0 (m-1) 0 B0 B CI PL PI) (h1:1≤m):CI (m-1)=sm C N:=by
  have ht:=h.ff;have h3:sm CI m=sm CI (m-1)+CI (m-1):=by rw[show m=(m-1)+1 by omega];rfl
  simp only[sm] at ht;omega
theorem Kq.gU (hd:Kq N m PL PI DI DL) (h:Tr N C m 0 0 (m-1) S B0 B CI PL PI) (h1:1≤m) {L:Nat} (hL:∀i,i<N→DL i≤L) (hI:∀a,a<m→DI a≤L):sm (fun i=>2^(L-DL i)) N=2^L:=by
  have hw:=h.w (fun i=>2^(L-DL i)) (fun a=>2^(L-DI a)) (fun i _ hi=>by
    have:=hL i hi;have d:=hd.leaf i hi;show 2*2^(L-DL i)=2^(L-DI (PL i));rw[show L-DI (PL i)=(L-DL i)+1 by omega,Nat.pow_succ,Nat.mul_comm]) (fun a ha=>by
    have d:=hd.Pd a Om;have:=hI a Om;show 2*2^(L-DI a)=2^(L-DI (PI a));rw[show L-DI (PI a)=(L-DI a)+1 by omega,Nat.pow_succ,Nat.mul_comm])
  have h3:sm (fun a=>2^(L-DI a)) m=sm (fun a=>2^(L-DI a)) (m-1)+2^(L-DI (m-1)):=by
    rw[show m=(m-1)+1 by omega];rfl
  rw[h3,hd.top] at hw;simp only[sm,Nat.zero_mul,Nat.sub_zero] at hw;omega
end
theorem Hh {S c L:Nat} (h:S/2^L<c) (hS:1≤S∧S≤65536) (hL:L≤12):1≤c*(4611686018427387904/S)/2^(62-L):=by
  have hp:0<2^L:=Nat.two_pow_pos _;have hq:0<2^(62-L):=Nat.two_pow_pos _;have e0:(4611686018427387904:Nat)=2^(62-L)*2^L:=by
    rw[←Nat.pow_add,show 62-L+L=62 by omega]
  have h1:S+1≤c*2^L:=by
    have:=(Nat.div_lt_iff_lt_mul hp).1 h;omega
  have h2:=Nat.div_add_mod 4611686018427387904 S;have h3:=Nat.mod_lt 4611686018427387904 (show 0<S by omega);have h4:65536≤4611686018427387904/S:=(Nat.le_div_iff_mul_le Om).2 Om;generalize kt:4611686018427387904/S=st at*;have h5:(S+1)*st≤c*2^L*st:=Nat.mul_le_mul_right _ h1;rw[Nat.add_mul,Nat.one_mul] at h5;have h6:2^(62-L)*2^L≤c*st*2^L:=by
    rw[←e0,Nat.mul_right_comm];omega
  exact(Nat.le_div_iff_mul_le hq).2 (by rw[Nat.one_mul];exact Nat.le_of_mul_le_mul_right h6 hp)
theorem Kr {S c L:Nat} (h:c≤S) (hS:1≤S) (hL:L≤12):c*(4611686018427387904/S)≤4611686018427387904∧c*(4611686018427387904/S)/2^(62-L)≤2^L:=by
  have hq:0<2^(62-L):=Nat.two_pow_pos _;have e0:(4611686018427387904:Nat)=2^L*2^(62-L):=by
    rw[←Nat.pow_add,show L+(62-L)=62 by omega]
  have h1:c*(4611686018427387904/S)≤4611686018427387904:=Nat.le_trans (Nat.mul_le_mul_right _ h) (Nat.mul_div_le _ _);refine⟨h1,?_⟩;have h2:c*(4611686018427387904/S)/2^(62-L)≤4611686018427387904/2^(62-L):=Nat.div_le_div_right h1;rw[e0,Nat.mul_div_cancel _ hq] at h2;rw[←e0] at h2;exact h2
theorem BX {cs:Nat→Nat} {k S L:Nat} (hS:sm cs k=S) (sG:0<S) (hk:k<2^L):∃i,i<k∧S/2^L<cs i:=by
  apply Classical.byContradiction;intro hn;have hle:∀i,i<k→cs i≤S/2^L:=fun i hi=>by
    rcases Nat.lt_or_ge (S/2^L) (cs i) with h|h
    · exact(hn ⟨i,hi,h⟩).elim
    · exact h
  have hb:∀n,n≤k→sm cs n≤n*(S/2^L):=by
    intro n;induction n with
    |zero=>intro _;simp[sm]
    |succ n ih=>
      intro hn';have h1:=ih Om;have h2:=hle n Om;simp only[sm];rw[Nat.add_mul,Nat.one_mul];omega
  have h1:=hb k (Nat.le_refl _);rw[hS] at h1;have hp:0<2^L:=Nat.two_pow_pos _;have h2:2^L*(S/2^L)≤S:=Nat.mul_div_le _ _;rcases Nat.eq_zero_or_pos (S/2^L) with h3|h3
  · rw[h3,Nat.mul_zero] at h1;omega
  · have h4:k*(S/2^L)<2^L*(S/2^L):=Nat.mul_lt_mul_of_pos_right hk h3;omega
theorem DY {v D t:Nat} (ht:1≤t) (hv:2≤v) (vq:t≤2^(v-1)):(2^(v-1)-1+t*((2^v*D+(2^(v-1)-1))/t))/2^v=D:=by
  have hp:0<2^v:=Nat.two_pow_pos _;have e:2^v=2*2^(v-1):=by
    have:2^(v-1+1)=2^(v-1)*2:=Nat.pow_succ _ _;rw[show v-1+1=v by omega] at this;omega
  have h1:=Nat.div_add_mod (2^v*D+(2^(v-1)-1)) t;have h2:=Nat.mod_lt (2^v*D+(2^(v-1)-1)) (show 0<t by omega);have hp1:0<2^(v-1):=Nat.two_pow_pos _;generalize hX:t*((2^v*D+(2^(v-1)-1))/t)=X at*;rw[show 2^(v-1)-1+X=(2^(v-1)-1+X-2^v*D)+2^v*D by omega,Nat.add_mul_div_left _ _ hp,Nat.div_eq_of_lt Om];omega
abbrev ni:Nat:=4042322160
theorem vK:256<ni:=by decide
def kr (M:Nat):List Nat→Nat
  |[]=>0
  |b::bs=>2^(M-b)+kr M bs
def l3 (M:Nat):List Nat→Nat
  |[]=>0
  |b::bs=>(if b=M then 1 else 0)+l3 M bs
theorem Hi {bs:List Nat} {p c i:Nat} (hp:p<bs.length):(bs.set p c).getD i 0=if i=p then c else bs.getD i 0:=by
  simp only[List.getD_eq_getElem?_getD,List.getElem?_set];by_cases h:p=i
  · subst h;simp[hp]
  · rw[if_neg h,if_neg (fun e=>h e.symm)]
theorem DZ {M:Nat}:∀{bs:List Nat} {p c:Nat},p<bs.length→kr M (bs.set p c)+2^(M-bs.getD p 0)=kr M bs+2^(M-c)
  |[],p,c,h=>by simp at h
  |b::bs,0,c,_=>by simp only[List.set_cons_zero,kr,List.getD_cons_zero];omega
  |b::bs,p+1,c,h=>by
    have:=DZ (M:=M) (bs:=bs) (p:=p) (c:=c) (by simpa using h);simp only[List.set_cons_succ,kr,List.getD_cons_succ];omega
theorem w4 {M:Nat}:∀{bs:List Nat} {p c:Nat},p<bs.length→l3 M (bs.set p c)+(if bs.getD p 0=M then 1 else 0)=l3 M bs+(if c=M then 1 else 0)
  |[],p,c,h=>by simp at h
  |b::bs,0,c,_=>by simp only[List.set_cons_zero,l3,List.getD_cons_zero];omega
  |b::bs,p+1,c,h=>by
    have:=w4 (M:=M) (bs:=bs) (p:=p) (c:=c) (by simpa using h);simp only[List.set_cons_succ,l3,List.getD_cons_succ];omega
theorem Ks {M k:Nat}:∀{bs:List Nat},(∀i,i<bs.length→bs.getD i 0=M∨bs.getD i 0+k≤M)→∃q,kr M bs=l3 M bs+2^k*q
  |[],_=>⟨0,rfl⟩
  |b::bs,h=>by
    obtain⟨q,hq⟩:=Ks (M:=M) (k:=k) (bs:=bs) fun i hi=>by
      have:=h (i+1) (by simpa using hi);simpa using this
    have h0:=h 0 Oi;simp only[List.getD_cons_zero] at h0;by_cases hb:b=M
    · subst hb;exact⟨q,by simp only[kr,l3,Nat.sub_self,Nat.pow_zero,if_true];omega⟩
    · have h1:b+k≤M:=h0.resolve_left hb;refine⟨2^(M-b-k)+q,?_⟩;have e:2^(M-b)=2^k*2^(M-b-k):=by rw[←Nat.pow_add];congr 1;omega
      simp only[kr,l3,if_neg hb];rw[Nat.mul_add, ←e];omega
theorem Am {M:Nat}:∀{bs:List Nat},l3 M bs≤bs.length
  |[]=>Nat.le_refl _
  |b::bs=>by have:=Am (M:=M) (bs:=bs);simp only[l3,List.length_cons];split<;>omega
theorem sV {M:Nat}:∀{bs:List Nat},0<l3 M bs→∃i,i<bs.length∧bs.getD i 0=M
  |[],h=>by simp[l3] at h
  |b::bs,h=>by
    by_cases hb:b=M
    · exact⟨0,Oi,by simpa using hb⟩
    · simp only[l3,if_neg hb,Nat.zero_add] at h;obtain⟨i,hi,he⟩:=sV h;exact⟨i+1,by simpa using hi,by simpa using he⟩
theorem D3 {M:Nat}:∀{bs:List Nat},(∀i,i<bs.length→bs.getD i 0=M)→kr M bs=bs.length
  |[],_=>rfl
  |b::bs,h=>by
    have h0:=h 0 Oi;simp only[List.getD_cons_zero] at h0;have:=D3 (M:=M) (bs:=bs) fun i hi=>by simpa using h (i+1) (by simpa using hi)
    simp only[kr,List.length_cons,h0,Nat.sub_self,Nat.pow_zero,this];omega
def Rk (M:Nat) (bs:List Nat) (k v:Nat):Prop:=
  (v=ni∧∀i,i<bs.length→bs.getD i 0+k≠M)∨(v<bs.length∧bs.getD v 0+k=M∧∀i,v<i→i<bs.length→bs.getD i 0+k≠M)
structure w5 (M:Nat) (bs:List Nat) (T:Int) (rl:List Nat):Prop where
  U5:M≤11
  len:bs.length≤256∧bs.length≤2^M
  mY:∀i j,i≤j→j<bs.length→bs.getD i 0≤bs.getD j 0
  rV:∀i,i<bs.length→1≤bs.getD i 0∧bs.getD i 0≤M
  sum:(kr M bs:Int)=((2^M:Nat):Int)+T
  mm:T<(l3 M bs:Int)∧ -T<(l3 M bs:Int)
  ex:T<0→∃i,i<bs.length∧bs.getD i 0<M
  U6:rl.length=13
  rk:∀k,1≤k→k≤12→Rk M bs k (rl.getD k 0)
theorem w5.short {M:Nat} {bs rl:List Nat} {T:Int} (h:w5 M bs T rl) (hT:0<T):∃i,i<bs.length∧bs.getD i 0<M:=by
  apply Classical.byContradiction;intro hn;have ha:∀i,i<bs.length→bs.getD i 0=M:=fun i hi=>by
    have h1:=h.rV i hi;rcases Nat.lt_or_ge (bs.getD i 0) M with h2|h2
    · exact(hn ⟨i,hi,h2⟩).elim
    · omega
  have h1:=D3 ha;have h2:=h.sum;have h3:=h.len.2;rw[h1] at h2;omega
theorem w5.some {M:Nat} {bs rl:List Nat} {T:Int} (h:w5 M bs T rl) (hT:0<T):∃k,1≤k∧k≤10∧rl.getD k 0≠ni:=by
  obtain⟨i,hi,hl⟩:=h.short hT;have h1:=h.rV i hi;have h2:=h.U5;refine⟨M-bs.getD i 0,Om,Om,fun e=>?_⟩;rcases h.rk (M-bs.getD i 0) Om Om with ⟨_,hn⟩|⟨hv,_⟩
  · exact hn i hi Om
  · have:=h.len.1;have:=vK;rw[e] at hv;omega
theorem w5.at_ {M:Nat} {bs rl:List Nat} {T:Int} (h:w5 M bs T rl) {k:Nat} (h1:1≤k) (h2:k≤12) (hk:rl.getD k 0≠ni):
    rl.getD k 0<bs.length∧bs.getD (rl.getD k 0) 0+k=M∧∀i,rl.getD k 0<i→i<bs.length→bs.getD i 0+k≠M:=by
  rcases h.rk k h1 h2 with ⟨e,_⟩|e
  · exact(hk e).elim
  · exact e
def rD (M:Nat) (bs rl:List Nat) (k p:Nat):List Nat:=
  let r1:=if rl.getD (k-1) 0=ni then rl.set (k-1) p else rl
  if p=0 then r1.set k ni else if bs.getD (p-1) 0+k=M then r1.set k (p-1) else r1.set k ni
theorem D4 (M:Nat) (bs rl:List Nat) (k p:Nat):(rD M bs rl k p).length=rl.length:=by
  unfold rD;simp only[];split<;>(try split)<;>(try split)<;>simp
theorem D5 {M:Nat} {bs rl:List Nat} {k p j:Nat} (hl:rl.length=13) (h1:1≤k) (h2:k≤12):(rD M bs rl k p).getD j 0=
    if j=k then (if p=0 then ni else if bs.getD (p-1) 0+k=M then p-1 else ni) else if j=k-1∧rl.getD (k-1) 0=ni then p else rl.getD j 0:=by
  unfold rD;simp only[];by_cases hr:rl.getD (k-1) 0=ni
  · simp only[hr,if_true,and_true];have fg:∀v,((rl.set (k-1) p).set k v).getD j 0=if j=k then v else if j=k-1 then p else rl.getD j 0:=fun v=>by
      rw[Hi Oz,Hi Om]
    split
    · rw[fg]
    · split<;>rw[fg]
  · simp only[hr,if_false,and_false];have fg:∀v,(rl.set k v).getD j 0=if j=k then v else rl.getD j 0:=fun v=>by rw[Hi Om]
    split
    · rw[fg]
    · split<;>rw[fg]
theorem w5.step {M:Nat} {bs rl:List Nat} {T:Int} (h:w5 M bs T rl) (hT:0<T) {k:Nat} (h1:1≤k) (h2:k≤12) (hk:rl.getD k 0≠ni)
    (hc:((2^(k-1):Nat):Int)≤T∨(T<((2^(k-1):Nat):Int)∧∀j,1≤j→j<k→rl.getD j 0=ni)):
    w5 M (bs.set (rl.getD k 0) (M-k+1)) (T-((2^(k-1):Nat):Int)) (rD M bs rl k (rl.getD k 0)):=by
  obtain⟨hp,hb,lq⟩:=h.at_ h1 h2 hk;generalize hpe:rl.getD k 0=p at*;have QE:=h.rV p hp;have hkM:k<M:=Om;have fg:∀i,(bs.set p (M-k+1)).getD i 0=if i=p then M-k+1 else bs.getD i 0:=fun i=>Hi hp
  have hlen:(bs.set p (M-k+1)).length=bs.length:=List.length_set;have e1:2^(M-bs.getD p 0)=2^k:=by congr 1;omega
  have e2:2^(M-(M-k+1))=2^(k-1):=by congr 1;omega
  have e3:2^k=2*2^(k-1):=by rw[show k=(k-1)+1 by omega,Nat.pow_succ];simp;omega
  have hkr:=DZ (M:=M) (c:=M-k+1) hp;have Hj:=w4 (M:=M) (c:=M-k+1) hp;rw[e1,e2] at hkr;rw[if_neg Om] at Hj;have hs:=h.sum;have hm:=h.mm;have sG:0<2^(k-1):=Nat.two_pow_pos _;refine⟨h.U5,by rw[hlen];exact h.len,?_,?_,Om,?_,?_,by rw[D4];exact h.U6,?_⟩
  · intro i j Bg hj;rw[hlen] at hj;rw[fg,fg];have Bd:=h.mY i j Bg hj;split
    · split
      · exact Nat.le_refl _
      · rename_i hi hjp;subst hi;have:=lq j Om hj;omega
    · split
      · rename_i hi hjp;subst hjp;omega
      · exact Bd
  · intro i hi;rw[hlen] at hi;rw[fg];split
    · omega
    · exact h.rV i hi
  · -- the number of those of M bits stays above the debt, and pays what is too much
    rcases hc with hc|⟨hc,pA⟩
    · by_cases wP:k=1
      · subst wP;rw[if_pos Om] at Hj;simp at Hj ⊢;omega
      · rw[if_neg Om] at Hj;omega
    · have tY:∀i,i<bs.length→bs.getD i 0=M∨bs.getD i 0+k≤M:=fun i hi=>by
        have hr:=h.rV i hi;rcases Nat.lt_or_ge M (bs.getD i 0+k) with h3|h3
        · rcases Nat.lt_or_ge (bs.getD i 0) M with h4|h4
          · exfalso
            rcases h.rk (M-bs.getD i 0) Om Om with ⟨_,hn⟩|⟨hv,_⟩
            · exact hn i hi Om
            · rw[pA _ Om Om] at hv;have:=h.len.1;have:=vK;omega
          · left;omega
        · right;exact h3
      obtain⟨q,hq⟩:=Ks tY;have wP:k≠1:=by
        intro e;subst e;simp at hc;omega
      rw[if_neg Om] at Hj
      -- cntB = T mod 2^k, and more than T
      have hMk:2^M=2^k*2^(M-k):=by rw[←Nat.pow_add];congr 1;omega
      have zR:T+((2^k:Nat):Int)≤(l3 M bs:Int):=by
        have e4:(l3 M bs:Int)-T=((2^k:Nat):Int)*(((2^(M-k):Nat):Int)-(q:Int)):=by
          rw[Int.mul_sub, ←Int.natCast_mul, ←Int.natCast_mul, ←hMk];omega
        have h5:0<(((2^(M-k):Nat):Int)-(q:Int)):=by
          apply Classical.byContradiction;intro hn;have h6:((2^k:Nat):Int)*(((2^(M-k):Nat):Int)-(q:Int))≤0:=Int.mul_nonpos_of_nonneg_of_nonpos (Int.natCast_nonneg _) Om;omega
        have h7:((2^k:Nat):Int)*1≤((2^k:Nat):Int)*(((2^(M-k):Nat):Int)-(q:Int)):=Int.mul_le_mul_of_nonneg_left Om (Int.natCast_nonneg _);omega
      omega
  · intro aky;refine⟨p,by rw[hlen];exact hp,?_⟩;rw[fg,if_pos rfl];have wP:k≠1:=by
      intro e;subst e;simp at aky;omega
    omega
  · intro j hj1 hj2;rw[D5 h.U6 h1 h2];by_cases IN:j=k
    · subst IN;rw[if_pos rfl];by_cases hp0:p=0
      · rw[if_pos hp0];left;refine⟨rfl,fun i hi=>?_⟩;rw[hlen] at hi;rw[fg];split
        · omega
        · exact lq i Om hi
      · rw[if_neg hp0];by_cases hq:bs.getD (p-1) 0+j=M
        · rw[if_pos hq];right;refine⟨by rw[hlen];omega,by rw[fg,if_neg Om];exact hq,fun i S9 Bf=>?_⟩;rw[hlen] at Bf;rw[fg];split
          · omega
          · exact lq i Om Bf
        · rw[if_neg hq];left;refine⟨rfl,fun i hi=>?_⟩;rw[hlen] at hi;rw[fg];split
          · omega
          · rename_i hip;rcases Nat.lt_or_ge p i with h3|h3
            · exact lq i h3 hi
            · have s1:=h.mY i (p-1) Om Om;have s2:=h.mY (p-1) p Om hp;omega
    · rw[if_neg IN];by_cases hj:j=k-1∧rl.getD (k-1) 0=ni
      · rw[if_pos hj];obtain⟨hj3,hj4⟩:=hj;subst hj3;right;refine⟨by rw[hlen];exact hp,by rw[fg,if_pos rfl];omega,fun i S9 Bf=>?_⟩;rw[hlen] at Bf;rw[fg,if_neg Om];rcases h.rk (k-1) hj1 hj2 with ⟨_,hn⟩|⟨hv,_⟩
        · exact hn i Bf
        · rw[hj4] at hv;have:=h.len.1;have:=vK;omega
      · rw[if_neg hj];rcases h.rk j hj1 hj2 with ⟨hv,hn⟩|⟨hv,hve,hvl⟩
        · left;refine⟨hv,fun i hi=>?_⟩;rw[hlen] at hi;rw[fg];split
          · intro e;exact hj ⟨Om,by rw[show k-1=j by omega];exact hv⟩
          · exact hn i hi
        · right;have hvp:rl.getD j 0≠p:=fun e=>by rw[e] at hve;omega
          refine⟨by rw[hlen];exact hv,by rw[fg,if_neg hvp];exact hve,fun i S9 Bf=>?_⟩;rw[hlen] at Bf;rw[fg];split
          · rename_i hip;intro e
            -- then j = k - 1, and its last place lies behind p
            have aBl:j=k-1:=Om;have s1:=h.mY (rl.getD j 0) p Om hp;omega
          · exact hvl i S9 Bf
structure w6 (M:Nat) (bs:List Nat) (T:Int) (v n:Nat):Prop where
  U5:M≤11
  len:bs.length≤256∧bs.length≤2^M
  mY:∀i j,i≤j→j<bs.length→bs.getD i 0≤bs.getD j 0
  rV:∀i,i<bs.length→1≤bs.getD i 0∧bs.getD i 0≤M
  sum:(kr M bs:Int)=((2^M:Nat):Int)+T
  T0:T≤0
  mm: -T<(l3 M bs:Int)
  ex:T<0→∃i,i<bs.length∧bs.getD i 0<M
  rk:Rk M bs 1 v
  nn:v=ni→n<bs.length∧∀i,n<i→i<bs.length→bs.getD i 0=M
theorem w5.pay {M n:Nat} {bs rl:List Nat} {T:Int} (h:w5 M bs T rl) (hT:T≤0) (hn:n<bs.length∧∀i,n<i→i<bs.length→bs.getD i 0=M):w6 M bs T (rl.getD 1 0) n:=
  ⟨h.U5,h.len,h.mY,h.rV,h.sum,hT,h.mm.2,h.ex,h.rk 1 Om Om,fun _=>hn⟩
theorem w6.put {M v n q:Nat} {bs:List Nat} {T:Int} (h:w6 M bs T v n) (hT:T<0) (hq:q<bs.length) (hM:bs.getD q 0=M) (hl:∀i,i<q→bs.getD i 0<M) (n':Nat):w6 M (bs.set q (M-1)) (T+1) q n':=by
  obtain⟨i0,hi0,Bl⟩:=h.ex hT;have h0:=h.rV i0 hi0;have fg:∀i,(bs.set q (M-1)).getD i 0=if i=q then M-1 else bs.getD i 0:=fun i=>Hi hq
  have hlen:(bs.set q (M-1)).length=bs.length:=List.length_set;have hkr:=DZ (M:=M) (c:=M-1) hq;have Hj:=w4 (M:=M) (c:=M-1) hq;have e2:2^(M-(M-1))=2:=by rw[show M-(M-1)=1 by omega]
  rw[hM,Nat.sub_self,e2] at hkr;rw[if_pos hM,if_neg Om] at Hj;have hs:=h.sum;have hm:=h.mm;refine⟨h.U5,by rw[hlen];exact h.len,?_,?_,by simp at hkr;omega,Om,Om,?_,?_,?_⟩
  · intro i j Bg hj;rw[hlen] at hj;rw[fg,fg];have Bd:=h.mY i j Bg hj;split
    · split
      · exact Nat.le_refl _
      · rename_i hi hjq;subst hi;have:=h.mY i j Bg hj;omega
    · split
      · rename_i hi hjq;subst hjq;have:=hl i Om;omega
      · exact Bd
  · intro i hi;rw[hlen] at hi;rw[fg];split
    · omega
    · exact h.rV i hi
  · intro _;exact⟨q,by rw[hlen];exact hq,by rw[fg,if_pos rfl];omega⟩
  · right;refine⟨by rw[hlen];exact hq,by rw[fg,if_pos rfl];omega,fun i S9 Bf=>?_⟩;rw[hlen] at Bf;rw[fg,if_neg Om];have:=h.mY q i Om Bf;omega
  · intro e;have:=h.len.1;have:=vK;omega
theorem w6.next {M v n:Nat} {bs:List Nat} {T:Int} (h:w6 M bs T v n) (hT:T<0) (hv:v≠ni):v+1<bs.length∧bs.getD (v+1) 0=M∧∀i,i<v+1→bs.getD i 0<M:=by
  rcases h.rk with ⟨e,_⟩|⟨h1,h2,h3⟩
  · exact(hv e).elim
  · have hm:=h.mm;obtain⟨i,hi,he⟩:=sV (M:=M) (bs:=bs) Om;have h4:v<i:=by
      rcases Nat.lt_or_ge v i with h5|h5
      · exact h5
      · have:=h.mY i v h5 h1;omega
    have h5:=h.mY v (v+1) Om Om;have h6:=h3 (v+1) Om Om;have h7:=h.rV (v+1) Om;refine⟨Om,Om,fun j hj=>?_⟩;have:=h.mY j v Om h1;omega
theorem w6.first {M v n n':Nat} {bs:List Nat} {T:Int} (h:w6 M bs T v n) (hT:T<0) (h1:n'<bs.length) (h2:bs.getD n' 0≠M) (h3:∀i,n'<i→i<bs.length→bs.getD i 0=M):n'+1<bs.length∧bs.getD (n'+1) 0=M∧∀i,i<n'+1→bs.getD i 0<M:=by
  have hm:=h.mm;obtain⟨i,hi,he⟩:=sV (M:=M) (bs:=bs) Om;have hr:=h.rV n' h1;have h4:n'<i:=by
    rcases Nat.lt_or_ge n' i with h5|h5
    · exact h5
    · have:=h.mY i n' h5 h1;omega
  refine⟨Om,h3 _ Om Om,fun j hj=>?_⟩;have:=h.mY j n' Om h1;omega
theorem l4 {W:Nat→Nat}:∀{n:Nat},sm W (n+1)=W 0+sm (fun i=>W (i+1)) n
  |0=>by simp[sm]
  |n+1=>by
    have:=l4 (W:=W) (n:=n);show sm W (n+1)+W (n+1)=_;rw[this];simp only[sm];omega
theorem uA {W:Nat→Nat} {a:Nat}:∀{b:Nat},sm W (a+b)=sm W a+sm (fun j=>W (a+j)) b
  |0=>by simp[sm]
  |b+1=>by
    show sm W (a+b)+W (a+b)=_;rw[uA (b:=b)];simp only[sm];omega
theorem An {V W:Nat→Nat}:∀{n:Nat},sm (fun i=>V i+W i) n=sm V n+sm W n
  |0=>rfl
  |n+1=>by simp only[sm];rw[An (n:=n)];omega
theorem Ao {W:Nat→Nat} {k:Nat}:∀{n:Nat},sm (fun i=>k*W i) n=k*sm W n
  |0=>by simp[sm]
  |n+1=>by simp only[sm];rw[Ao (n:=n),Nat.mul_add]
theorem gV {k:Nat}:∀{n:Nat},sm (fun _=>k) n=n*k
  |0=>by simp[sm]
  |n+1=>by simp only[sm];rw[gV (n:=n),Nat.add_mul];omega
theorem Kt {W:Nat→Nat} {n:Nat} (hn:0<n) (h:∀i,i<n→0<W i):0<sm W n:=by
  cases n with
  |zero=>omega
  |succ n=>simp only[sm];have:=h n Om;omega
theorem FO {V W:Nat→Nat}:∀{n:Nat},(∀i,i<n→V i≤W i)→sm V n≤sm W n
  |0,_=>Nat.le_refl _
  |n+1,h=>by
    have h1:=FO (V:=V) (W:=W) (n:=n) fun i hi=>h i Om
    have h2:=h n Om;simp only[sm];omega
theorem Ku {M:Nat}:∀{bs:List Nat},kr M bs=sm (fun i=>2^(M-bs.getD i 0)) bs.length
  |[]=>rfl
  |b::bs=>by
    rw[List.length_cons,l4];simp only[kr,List.getD_cons_zero,List.getD_cons_succ];rw[Ku (bs:=bs)]
theorem FP {M:Nat}:∀{bs:List Nat},l3 M bs=sm (fun i=>if bs.getD i 0=M then 1 else 0) bs.length
  |[]=>rfl
  |b::bs=>by
    rw[List.length_cons,l4];simp only[l3,List.getD_cons_zero,List.getD_cons_succ];rw[FP (bs:=bs)]
theorem U7 {M L N n:Nat} {b0:Nat→Nat} {bs:List Nat} (U8:M<L) (hn:n+1<N) (h1:∀i,i≤n→b0 i≤M) (h2:∀i,n<i→i<N→M<b0 i∧b0 i≤L) (hk:sm (fun i=>2^(L-b0 i)) N=2^L)
    (hlen:bs.length=N) (hb:∀i,i<N→bs.getD i 0=if i≤n then b0 i else M):
    ∃T,sm (fun j=>2^(L-M)-2^(L-b0 (n+1+j))) (N-1-n)=T*2^(L-M)∧1≤T∧kr M bs=2^M+T∧T<l3 M bs:=by
  have hN:N=(n+1)+(N-1-n):=Om;have e1:2^(L-M)*kr M bs=sm (fun i=>2^(L-b0 i)) (n+1)+(N-1-n)*2^(L-M):=by
    rw[Ku, ←Ao,hlen];rw[show sm (fun i=>2^(L-M)*2^(M-bs.getD i 0)) N=sm (fun i=>2^(L-M)*2^(M-bs.getD i 0)) ((n+1)+(N-1-n)) by rw[←hN],uA];congr 1
    · apply cD;intro i hi;rw[hb i Om,if_pos Om, ←Nat.pow_add];congr 1;have:=h1 i Om;omega
    · rw[←gV (k:=2^(L-M))];apply cD;intro j hj;show 2^(L-M)*2^(M-bs.getD (n+1+j) 0)=_;rw[hb _ Om,if_neg Om,Nat.sub_self,Nat.pow_zero,Nat.mul_one]
  have e2:sm (fun i=>2^(L-b0 i)) (n+1)+sm (fun j=>2^(L-b0 (n+1+j))) (N-1-n)=2^L:=by
    rw[←hk]
    conv=>rhs;rw[hN]
    exact(uA (a:=n+1)).symm
  have e3:sm (fun j=>2^(L-M)-2^(L-b0 (n+1+j))) (N-1-n)+sm (fun j=>2^(L-b0 (n+1+j))) (N-1-n)=(N-1-n)*2^(L-M):=by
    rw[←An, ←gV (k:=2^(L-M))];apply cD;intro j hj;have:=h2 (n+1+j) Om Om;have h3:2^(L-b0 (n+1+j))≤2^(L-M):=Nat.pow_le_pow_right Om Om;show 2^(L-M)-2^(L-b0 (n+1+j))+2^(L-b0 (n+1+j))=2^(L-M);omega
  have e4:2^L=2^(L-M)*2^M:=by rw[←Nat.pow_add];congr 1;omega
  have hp:0<2^(L-M):=Nat.two_pow_pos _;have e5:2^(L-M)*kr M bs=2^(L-M)*2^M+sm (fun j=>2^(L-M)-2^(L-b0 (n+1+j))) (N-1-n):=Om;have zR:2^M≤kr M bs:=by
    apply Nat.le_of_mul_le_mul_left _ hp;omega
  refine⟨kr M bs-2^M,?_,?_,Om,?_⟩
  · rw[Nat.mul_comm,Nat.mul_sub];omega
  · apply Nat.pos_of_ne_zero;intro h0;have e6:kr M bs=2^M:=Om;rw[e6] at e5;have:0<sm (fun j=>2^(L-M)-2^(L-b0 (n+1+j))) (N-1-n):=by
      apply Kt Om;intro j hj;have:=h2 (n+1+j) Om Om;have h3:2^(L-b0 (n+1+j))<2^(L-M):=Nat.pow_lt_pow_right Om Om;show 0<2^(L-M)-2^(L-b0 (n+1+j));omega
    omega
  · have hc:N-1-n≤l3 M bs:=by
      rw[FP,hlen]
      conv=>rhs;rw[hN]
      rw[uA (a:=n+1)];have:sm (fun j=>if bs.getD (n+1+j) 0=M then 1 else 0) (N-1-n)=N-1-n:=by
        rw[show sm (fun j=>if bs.getD (n+1+j) 0=M then 1 else 0) (N-1-n)=sm (fun _=>1) (N-1-n) from cD fun j hj=>by rw[if_pos (by rw[hb _ Om,if_neg Om])],gV,Nat.mul_one]
      omega
    have hs:0<sm (fun j=>2^(L-b0 (n+1+j))) (N-1-n):=Kt Om fun j _=>Nat.two_pow_pos _
    have:2^(L-M)*(kr M bs-2^M)<2^(L-M)*(N-1-n):=by
      rw[Nat.mul_sub,Nat.mul_comm (2^(L-M)) (N-1-n)];omega
    have:=Nat.lt_of_mul_lt_mul_left this;omega
def ct (P:Nat→Bool):Nat→Nat
  |0=>0
  |n+1=>ct P n+(bif P n then 1 else 0)
theorem Ap {P:Nat→Bool}:∀{m n:Nat},m≤n→ct P m≤ct P n
  |m,0,h=>by rw[Nat.le_zero.1 h];exact Nat.le_refl _
  |m,n+1,h=>by
    rcases Nat.lt_or_ge m (n+1) with h1|h1
    · have:=Ap (P:=P) (m:=m) (n:=n) Om;simp only[ct];omega
    · rw[show m=n+1 by omega];exact Nat.le_refl _
theorem adj {P:Nat→Bool} {m n:Nat} (h:m<n) (hP:P m=true):ct P m<ct P n:=by
  have:=Ap (P:=P) (m:=m+1) (n:=n) h;simp only[ct,hP,cond_true] at this;omega
theorem QF {m n:Nat} (h:m≤n):Nat.ble m n=true:=Nat.ble_eq_true_of_le h
theorem Kv {m n:Nat} (h:n<m):Nat.ble m n=false:=by
  cases e:Nat.ble m n with
  |true=>have:=Nat.le_of_ble_eq_true e;omega
  |false=>rfl
theorem U9 {m n:Nat} (h:m=n):Nat.beq m n=true:=by subst h;exact Nat.beq_refl m
theorem Hk {m n:Nat} (h:m≠n):Nat.beq m n=false:=by
  cases e:Nat.beq m n with
  |true=>exact(h (Nat.eq_of_beq_eq_true e)).elim
  |false=>rfl
def bk (h:Nat→Nat) (len r:Nat):Nat:=ct (fun x=>Nat.ble (r+1) (h x)) len
def lk (h:Nat→Nat) (r n:Nat):Nat:=ct (fun x=>Nat.beq (h x) r) n
theorem FQ {P:Nat→Bool}:∀{n:Nat},ct P n≤n
  |0=>Nat.le_refl _
  |n+1=>by have:=FQ (P:=P) (n:=n);simp only[ct];cases P n<;>simp<;>omega
theorem qf (h:Nat→Nat) (r:Nat):∀len:Nat,bk h len (r+1)+lk h (r+1) len=bk h len r
  |0=>rfl
  |n+1=>by
    have:=qf h r n;simp only[bk,lk,ct] at this ⊢;rcases Nat.lt_trichotomy (h n) (r+1) with h1|h1|h1
    · rw[show Nat.ble (r+1+1) (h n)=false from Kv Om,show Nat.beq (h n) (r+1)=false from Hk Om,show Nat.ble (r+1) (h n)=false from Kv Om];simpa using this
    · rw[show Nat.ble (r+1+1) (h n)=false from Kv Om,show Nat.beq (h n) (r+1)=true from U9 Om,show Nat.ble (r+1) (h n)=true from QF Om];simp at this ⊢;omega
    · rw[show Nat.ble (r+1+1) (h n)=true from QF Om,show Nat.beq (h n) (r+1)=false from Hk Om,show Nat.ble (r+1) (h n)=true from QF Om];simp at this ⊢;omega
theorem og (h:Nat→Nat):∀len:Nat,bk h len 0+lk h 0 len=len
  |0=>rfl
  |n+1=>by
    have:=og h n;simp only[bk,lk,ct] at this ⊢;rcases Nat.eq_zero_or_pos (h n) with h1|h1
    · rw[show Nat.ble (0+1) (h n)=false from Kv Om,show Nat.beq (h n) 0=true from U9 Om];simp at this ⊢;omega
    · rw[show Nat.ble (0+1) (h n)=true from QF Om,show Nat.beq (h n) 0=false from Hk Om];simp at this ⊢;omega
structure HS (len:Nat) (c h:Nat→Nat) (n:Nat) (Z:Nat→Nat × Nat):Prop where
  BY:∀x,x<n→∃i,bk h len (h x)≤i∧i<bk h len (h x)+lk h (h x) n∧Z i=(c x,x)
  out:∀r i,bk h len r≤i→i<bk h len r+lk h r n→∃x,x<n∧h x=r∧Z i=(c x,x)
  mY:∀r i j,bk h len r≤i→i≤j→j<bk h len r+lk h r n→(Z j).1≤(Z i).1
theorem HS.begin (len:Nat) (c h:Nat→Nat) (Z:Nat→Nat × Nat):HS len c h 0 Z:=⟨fun x hx=>Om,fun r i h1 h2=>by simp[lk,ct] at h2;omega,fun r i j h1 h2 h3=>by simp[lk,ct] at h3;omega⟩
theorem BZ {h:Nat→Nat} {n len:Nat} (hn:n<len):lk h (h n) n<lk h (h n) len:=adj hn Oi
theorem FR {h:Nat→Nat} {len:Nat}:∀{r s:Nat},r≤s→bk h len s≤bk h len r
  |r,0,Kw=>by rw[Nat.le_zero.1 Kw];exact Nat.le_refl _
  |r,s+1,Kw=>by
    rcases Nat.lt_or_ge r (s+1) with h1|h1
    · have h2:=FR (h:=h) (len:=len) (r:=r) (s:=s) Om;have h3:=qf h s len;omega
    · rw[show r=s+1 by omega];exact Nat.le_refl _
theorem sW {h:Nat→Nat} {len r s:Nat} (Kw:r<s):bk h len s+lk h s len≤bk h len r:=by
  obtain⟨k,rfl⟩:∃k,s=k+1:=⟨s-1,Om⟩;rw[qf h k len];exact FR Om
theorem HS.put {len n p:Nat} {c h:Nat→Nat} {Z Z':Nat→Nat × Nat} (H:HS len c h n Z) (hn:n<len) (hp:bk h len (h n)≤p∧p≤bk h len (h n)+lk h (h n) n)
    (pA:p=bk h len (h n)∨c n≤(Z (p-1)).1) (adk:∀i,p≤i→i<bk h len (h n)+lk h (h n) n→(Z i).1<c n)
    (z1:∀i,i<p→Z' i=Z i) (z2:Z' p=(c n,n)) (z3:∀i,p≤i→i<bk h len (h n)+lk h (h n) n→Z' (i+1)=Z i) (z4:∀i,bk h len (h n)+lk h (h n) n<i→Z' i=Z i):HS len c h (n+1) Z':=by
  have na:=BZ (h:=h) hn;have kQ:lk h (h n) (n+1)=lk h (h n) n+1:=by simp[lk,ct]
  have hot:∀r,r≠h n→lk h r (n+1)=lk h r n:=fun r hr=>by
    simp only[lk,ct];rw[show Nat.beq (h n) r=false from Hk (fun e=>hr e.symm)];simp
  have hle:∀r,lk h r n≤lk h r len:=fun r=>Ap Om
  -- other buckets are left as they are
  have FT:∀r,r≠h n→∀i,bk h len r≤i→i<bk h len r+lk h r n→Z' i=Z i:=fun r hr i h1 h2=>by
    have h3:=hle r;rcases Nat.lt_or_gt_of_ne hr with h4|h4
    · have:=sW (h:=h) (len:=len) h4;exact z4 i Om
    · have:=sW (h:=h) (len:=len) h4;exact z1 i Om
  refine⟨fun x hx=>?_,fun r i h1 h2=>?_,fun r i j h1 h2 h3=>?_⟩
  · by_cases e:x=n
    · subst e;exact⟨p,hp.1,Om,z2⟩
    · obtain⟨i,i1,i2,i3⟩:=H.BY x Om;by_cases er:h x=h n
      · rw[er] at i1 i2 ⊢;rcases Nat.lt_or_ge i p with h5|h5
        · exact⟨i,i1,Om,by rw[z1 i h5];exact i3⟩
        · exact⟨i+1,Om,Om,by rw[z3 i h5 i2];exact i3⟩
      · exact⟨i,i1,by rw[hot _ er];exact i2,by rw[FT _ er i i1 i2];exact i3⟩
  · by_cases er:r=h n
    · subst er;rw[kQ] at h2;rcases Nat.lt_trichotomy i p with h5|h5|h5
      · obtain⟨x,x1,x2,x3⟩:=H.out (h n) i h1 Om;exact⟨x,Om,x2,by rw[z1 i h5];exact x3⟩
      · subst h5;exact⟨n,Om,rfl,z2⟩
      · obtain⟨k,rfl⟩:∃k,i=k+1:=⟨i-1,Om⟩;obtain⟨x,x1,x2,x3⟩:=H.out (h n) k Om Om;exact⟨x,Om,x2,by rw[z3 k Om Om];exact x3⟩
    · rw[hot r er] at h2;obtain⟨x,x1,x2,x3⟩:=H.out r i h1 h2;exact⟨x,Om,x2,by rw[FT r er i h1 h2];exact x3⟩
  · by_cases er:r=h n
    · subst er;rw[kQ] at h3
      -- the new one and what was there
      have key:∀i,bk h len (h n)≤i→i<bk h len (h n)+lk h (h n) n+1→(i<p∧Z' i=Z i)∨(i=p∧Z' i=(c n,n))∨(p<i∧Z' i=Z (i-1)):=fun i a b=>by
        rcases Nat.lt_trichotomy i p with h5|h5|h5
        · exact .inl ⟨h5,z1 i h5⟩
        · subst h5;exact .inr (.inl ⟨rfl,z2⟩)
        · refine .inr (.inr ⟨h5,?_⟩);have:=z3 (i-1) Om Om;rwa [show i-1+1=i by omega] at this
      rcases key i h1 Om with ⟨a,ea⟩|⟨a,ea⟩|⟨a,ea⟩<;>rcases key j Om Om with ⟨b,eb⟩|⟨b,eb⟩|⟨b,eb⟩<;>rw[ea,eb]
      · exact H.mY (h n) i j h1 h2 Om
      · rcases pA with pA|pA
        · omega
        · exact Nat.le_trans pA (H.mY (h n) i (p-1) h1 Om Om)
      · exact H.mY (h n) i (j-1) h1 Om Om
      · omega
      · exact Nat.le_refl _
      · exact Nat.le_of_lt (adk (j-1) Om Om)
      · omega
      · omega
      · exact H.mY (h n) (i-1) (j-1) Om Om Om
    · rw[hot r er] at h3;rw[FT r er i h1 Om,FT r er j Om h3];exact H.mY r i j h1 h2 h3
theorem Aq {h:Nat→Nat} {len R:Nat} (hR:bk h len R=0) {i:Nat} (hi:i<len):∃r,bk h len r≤i∧i<bk h len r+lk h r len:=by
  have:∀k r,r+k=R→(r=0∨i<bk h len (r-1))→∃r,bk h len r≤i∧i<bk h len r+lk h r len:=by
    intro k;induction k with
    |zero=>
      intro r hr eU;refine⟨r,by rw[show r=R by omega,hR];exact Nat.zero_le _,?_⟩;rcases eU with h0|h0
      · have:=og h len;rw[h0];omega
      · have:=qf h (r-1) len;by_cases e:r=0
        · have:=og h len;rw[e];omega
        · rw[show r-1+1=r by omega] at this;omega
    |succ k ih=>
      intro r hr eU;rcases Nat.lt_or_ge i (bk h len r) with h1|h1
      · exact ih (r+1) Om (.inr (by simpa using h1))
      · refine⟨r,h1,?_⟩;rcases eU with h0|h0
        · have:=og h len;rw[h0];omega
        · have:=qf h (r-1) len;by_cases e:r=0
          · have:=og h len;rw[e];omega
          · rw[show r-1+1=r by omega] at this;omega
  exact this R 0 Om (.inl rfl)
theorem HS.fin {len R:Nat} {c h:Nat→Nat} {Z:Nat→Nat × Nat} (H:HS len c h len Z) (hR:bk h len R=0) (hc:∀x y,x<len→y<len→h x<h y→c x≤c y):
    (∀i,i<len→∃x,x<len∧Z i=(c x,x))∧(∀x,x<len→∃i,i<len∧Z i=(c x,x))∧(∀i j,i≤j→j<len→(Z j).1≤(Z i).1):=by
  refine⟨fun i hi=>?_,fun x hx=>?_,fun i j Bg hj=>?_⟩
  · obtain⟨r,r1,r2⟩:=Aq hR hi;obtain⟨x,x1,_,x3⟩:=H.out r i r1 r2;exact⟨x,x1,x3⟩
  · obtain⟨i,i1,i2,i3⟩:=H.BY x hx;refine⟨i,?_,i3⟩;have h1:=og h len;by_cases e:h x=0
    · rw[e] at i2;omega
    · have h2:=sW (h:=h) (len:=len) (r:=0) (s:=h x) Om;omega
  · obtain⟨r,r1,r2⟩:=Aq hR (show i<len by omega);obtain⟨s,s1,s2⟩:=Aq hR hj;rcases Nat.lt_trichotomy r s with h1|h1|h1
    · have:=sW (h:=h) (len:=len) h1;omega
    · subst h1;exact H.mY r i j r1 Bg s2
    · obtain⟨x,x1,x2,x3⟩:=H.out r i r1 r2;obtain⟨y,y1,y2,y3⟩:=H.out s j s1 s2;rw[x3,y3];exact hc y x y1 x1 Om
theorem w7 {W:Nat→Nat} {j v:Nat}:∀{n:Nat},j<n→sm (fun i=>if i=j then v else W i) n+W j=sm W n+v
  |0,h=>by omega
  |n+1,h=>by
    by_cases e:j=n
    · subst e;simp only[sm,if_true];rw[cD (W:=fun i=>if i=j then v else W i) (W':=W) fun i hi=>by simp only[if_neg (show i≠j by omega)]];omega
    · have:=w7 (W:=W) (j:=j) (v:=v) (n:=n) Om;simp only[sm,if_neg (show n≠j from fun h=>e h.symm)];omega
theorem Ar {v:Nat}:∀{n:Nat},v<n→sm (fun x=>if x=v then 1 else 0) n=1
  |0,h=>by omega
  |n+1,h=>by
    by_cases e:v=n
    · subst e;simp only[sm,if_true];rw[cD (W:=fun x=>if x=v then 1 else 0) (W':=fun _=>0) fun i hi=>by simp only[if_neg (show i≠v by omega)],gV];omega
    · have:=Ar (v:=v) (n:=n) Om;simp only[sm,if_neg (show n≠v from fun h=>e h.symm)];omega
theorem B1 {W:Nat→Nat}:∀{n:Nat},sm W n≠0→∃i,i<n∧W i≠0
  |0,h=>(h rfl).elim
  |n+1,h=>by
    by_cases e:W n=0
    · obtain⟨i,hi,hw⟩:=B1 (W:=W) (n:=n) (by simp only[sm] at h;omega);exact⟨i,Om,hw⟩
    · exact⟨n,Om,e⟩
theorem As:∀{n:Nat} {g:Nat→Nat},(∀i,i<n→g i<n)→(∀i j,i<n→j<n→g i=g j→i=j)→∀W:Nat→Nat,sm (fun i=>W (g i)) n=sm W n
  |0,_,_,_,_=>rfl
  |n+1,g,hg,hi,W=>by
    have hv:=hg n Om;by_cases hj:∃j,j<n∧g j=n
    · obtain⟨j,hjn,hjg⟩:=hj
      -- j and n change their places
      have hvn:g n≠n:=fun e=>by have:=hi j n Om Om (by rw[hjg,e]);omega
      have ih:=As (n:=n) (g:=fun i=>if i=j then g n else g i) (fun i kQ=>by
        show(if i=j then g n else g i)<n;split
        · omega
        · rename_i rT;have h1:=hg i Om;have:g i≠n:=fun e=>rT (hi i j Om Om (by rw[e,hjg]))
          omega) (fun a b ha hb w8=>by
        change (if a=j then g n else g a)=(if b=j then g n else g b) at w8
        by_cases ea:a=j
        · by_cases eb:b=j
          · omega
          · rw[if_pos ea,if_neg eb] at w8;have:=hi n b Om Om w8;omega
        · by_cases eb:b=j
          · rw[if_neg ea,if_pos eb] at w8;have:=hi a n Om Om w8;omega
          · rw[if_neg ea,if_neg eb] at w8;exact hi a b Om Om w8) W
      have hu:=w7 (W:=fun i=>W (g i)) (j:=j) (v:=W (g n)) (n:=n) hjn;have hc:sm (fun i=>W (if i=j then g n else g i)) n=sm (fun i=>if i=j then W (g n) else W (g i)) n:=cD fun i _=>by split<;>rfl
      simp only[sm];rw[hc] at ih;simp only[hjg] at hu;omega
    · have U':∀i,i<n→g i<n:=fun i kQ=>by
        have h1:=hg i Om;have:g i≠n:=fun e=>hj ⟨i,kQ,e⟩
        omega
      have ih:=As (n:=n) (g:=g) U' (fun a b ha hb=>hi a b Om Om);have hvn:g n=n:=by
        apply Classical.byContradiction;intro rT;have h1:=ih fun x=>if x=g n then 1 else 0
        rw[Ar (show g n<n by omega)] at h1;obtain⟨i,kQ,hw⟩:=B1 (n:=n) (W:=fun i=>if g i=g n then 1 else 0) (by rw[h1];omega);have e:g i=g n:=by
          apply Classical.byContradiction;intro he;exact hw (if_neg he)
        have:=hi i n Om Om e;omega
      simp only[sm];rw[ih W,hvn]
theorem FU {n:Nat} {P Q:Nat→Nat} {s:Nat→Nat} (hs:∀x,x<n→∃i,i<n∧s i=x) (hPQ:∀i,i<n→P i=Q (s i)):sm Q n=sm P n:=by
  have hc:∀x,∃i,x<n→i<n∧s i=x:=fun x=>by
    by_cases hx:x<n
    · obtain⟨i,h1,h2⟩:=hs x hx;exact⟨i,fun _=>⟨h1,h2⟩⟩
    · exact⟨0,fun h=>(hx h).elim⟩
  let g:Nat→Nat:=fun x=>Classical.choose (hc x)
  have hgs:∀x,x<n→g x<n∧s (g x)=x:=fun x hx=>Classical.choose_spec (hc x) hx
  rw[←As (n:=n) (g:=g) (fun i hi=>(hgs i hi).1) (fun a b ha hb w8=>by rw[←(hgs a ha).2, ←(hgs b hb).2,w8]) P];apply cD;intro x hx;show Q x=P (g x);rw[hPQ (g x) (hgs x hx).1,(hgs x hx).2]
def qO (F:Nat→Int→Nat) (NR:List Int) (i:Nat):Nat:=sm (fun j=>F j (NR.getD j 0)) i
section
variable {F:Nat→Int→Nat} {NR:List Int} {i n:Nat} {v:Int}
theorem dK {xs:List Int} {i j:Nat} {v:Int} (h:i<xs.length):(xs.set i v).getD j 0=if i=j then v else xs.getD j 0:=by
  simp only[List.getD_eq_getElem?_getD,List.getElem?_set];split
  · rename_i e;subst e;simp[h]
  · rfl
theorem QG (h:∀j,j<i→j≠n) (hn:n<NR.length):qO F (NR.set n v) i=qO F NR i:=cD fun j hj=>by rw[dK hn,if_neg (fun e=>h j hj e.symm)]
theorem fy (hi:i<NR.length):qO F (NR.set i v) (i+1)=qO F NR i+F i v:=by
  show qO F (NR.set i v) i+F i ((NR.set i v).getD i 0)=_;rw[QG (fun j hj=>Om) hi,dK hi,if_pos rfl]
theorem nk:qO F NR (i+1)=qO F NR i+F i (NR.getD i 0):=rfl
theorem Au (hi:i<n) (hl:i<NR.length):qO F (NR.set i v) n+F i (NR.getD i 0)=qO F NR n+F i v:=by
  have h:=w7 (W:=fun j=>F j (NR.getD j 0)) (v:=F i v) hi;rw[qO,qO, ←h];congr 1;refine cD fun j hj=>?_
  show F j ((NR.set i v).getD j 0)=if j=i then F i v else F j (NR.getD j 0)
  rw[dK hl];by_cases e:i=j
  · subst e;rw[if_pos rfl,if_pos rfl]
  · rw[if_neg e,if_neg (fun h=>e h.symm)]
end
def fA:Nat→Int→Nat:=fun _ z=>z.natAbs
structure Ky (CN:List Nat) (NR:List Int) (i:Nat):Prop where
  ge:∀j,j<i→ -1≤NR.getD j 0
  z:∀j,j<i→(NR.getD j 0=0↔CN.getD j 0=0)
theorem Ky.zero (CN:List Nat) (NR:List Int):Ky CN NR 0:=⟨fun j h=>Om,fun j h=>Om⟩
theorem Ky.step {CN:List Nat} {NR:List Int} {i:Nat} {v:Int} (h:Ky CN NR i) (hi:i<NR.length) (h1: -1≤v) (h2:v=0↔CN.getD i 0=0):Ky CN (NR.set i v) (i+1):=by
  refine⟨fun j hj=>?_,fun j hj=>?_⟩
  · rw[dK hi];split
    · exact h1
    · exact h.ge j Om
  · rw[dK hi];split
    · rename_i e;subst e;exact h2
    · exact h.z j Om
theorem Ky.put {CN:List Nat} {NR:List Int} {i n:Nat} {v:Int} (h:Ky CN NR n) (hi:i<NR.length) (h1:1≤v) (h2:NR.getD i 0≠0):Ky CN (NR.set i v) n:=by
  refine⟨fun j hj=>?_,fun j hj=>?_⟩
  · rw[dK hi];split
    · omega
    · exact h.ge j Om
  · rw[dK hi];split
    · rename_i e;subst e;have:=h.z i hj;constructor
      · intro h9;omega
      · intro h9;exact absurd (this.2 h9) h2
    · exact h.z j Om
def uB (NR:List Int) (i lp lg:Nat):Prop:=(lp=0∧∀j,j<i→NR.getD j 0≤0)∨(1≤lp∧lg<i∧NR.getD lg 0=lp)
theorem uB.zero (NR:List Int) (lg:Nat):uB NR 0 0 lg:=.inl ⟨rfl,fun j h=>Om⟩
theorem uB.low {NR:List Int} {i lp lg:Nat} {v:Int} (h:uB NR i lp lg) (hi:i<NR.length) (hv:v≤0):uB (NR.set i v) (i+1) lp lg:=by
  rcases h with ⟨h1,h2⟩|⟨h1,h2,h3⟩
  · refine .inl ⟨h1,fun j hj=>?_⟩;rw[dK hi];split
    · exact hv
    · exact h2 j Om
  · exact .inr ⟨h1,Om,by rw[dK hi,if_neg Om];exact h3⟩
theorem uB.new {NR:List Int} {i v:Nat} (hi:i<NR.length) (hv:1≤v):uB (NR.set i (v:Int)) (i+1) v i:=.inr ⟨hv,Om,by rw[dK hi,if_pos rfl]⟩
theorem uB.old {NR:List Int} {i lp lg v:Nat} (h:uB NR i lp lg) (hi:i<NR.length) (h1:1≤v) (hv:v≤lp):uB (NR.set i (v:Int)) (i+1) lp lg:=by
  rcases h with ⟨h1,h2⟩|⟨h1,h2,h3⟩
  · omega
  · exact .inr ⟨h1,Om,by rw[dK hi,if_neg Om];exact h3⟩
structure u9 (L:Nat) (CN:List Nat) (NR:List Int) (n:Nat):Prop where
  I:Ky CN NR n
  sum:qO fA NR n=2^L
theorem zp {W:Nat→Nat} {j:Nat}:∀{n:Nat},j<n→sm W n≤W j→∀i,i<n→i≠j→W i=0
  |0,h,_=>by omega
  |n+1,h,hs=>fun i hi Bg=>by
    simp only[sm] at hs;by_cases e:j=n
    · subst e;have hz:sm W j=0:=Om;have h1:i<j:=Om;apply Classical.byContradiction;intro rT;have hx:∀m,i<m→W i≤sm W m:=fun m=>by
        induction m with
        |zero=>intro h;omega
        |succ m ih=>
          intro h9;simp only[sm];by_cases e2:i=m
          · subst e2;omega
          · have:=ih Om;omega
      have:=hx j h1;omega
    · have hj:j<n:=Om;have hx:∀m,j<m→W j≤sm W m:=fun m=>by
        induction m with
        |zero=>intro h;omega
        |succ m ih=>
          intro h9;simp only[sm];by_cases e2:j=m
          · subst e2;omega
          · have:=ih Om;omega
      have hle:=hx n hj;by_cases e3:i=n
      · subst e3;omega
      · exact zp hj Om i Om Bg
theorem FV:∀(cs:List Int),(aU cs).sum=sm (fun j=>(cs.getD j 0).natAbs) cs.length
  |[]=>rfl
  |n::cs=>by
    rw[aU,List.map_cons,List.sum_cons,List.length_cons,l4];simp only[List.getD_cons_zero,List.getD_cons_succ];rw[←FV cs];rfl
theorem gr {NR:List Int} {n i:Nat} (h:i<n):(NR.take n).getD i 0=NR.getD i 0:=by simp[List.getD_eq_getElem?_getD,List.getElem?_take,h]
theorem u9.counts {L:Nat} {CN:List Nat} {NR:List Int} {n:Nat} (h:u9 L CN NR n) (hL:L=5∨L=6) (hn:n≤13) (hl:n≤NR.length) {S:Nat} (hS:sm (fun j=>CN.getD j 0) n=S) (hm:∀j,j<n→CN.getD j 0<S):cb L (NR.take n):=by
  have hlen:(NR.take n).length=n:=by rw[List.length_take];omega
  have adl:∀c ∈ NR.take n,∃j,j<n∧c=NR.getD j 0:=fun c hc=>by
    obtain⟨i,hi,rfl⟩:=List.getElem_of_mem hc;rw[hlen] at hi;exact⟨i,hi,by simp[List.getD_eq_getElem?_getD,show i<NR.length by omega]⟩
  refine⟨hL,?_,Om,fun c hc=>?_,fun c hc=>?_⟩
  · rw[FV,hlen, ←h.sum];exact cD fun j hj=>by rw[gr hj];rfl
  · obtain⟨j,hj,rfl⟩:=adl c hc;exact h.I.ge j hj
  · obtain⟨j,hj,rfl⟩:=adl c hc;apply Classical.byContradiction;intro zR;have e:((2:Int)^L)=((2^L:Nat):Int):=Oi;rw[e] at zR;have hz:=zp (W:=fun j=>fA j (NR.getD j 0)) hj (by have:=h.sum;unfold qO at this;rw[this];show 2^L≤(NR.getD j 0).natAbs;omega);have hz2:∀i,i<n→i≠j→CN.getD i 0=0:=fun i hi Bg=>(h.I.z i hi).1 (by have:=hz i hi Bg;simpa [fA] using this)
    have:sm (fun i=>CN.getD i 0) n=CN.getD j 0:=by
      have e1:=w7 (W:=fun i=>CN.getD i 0) (v:=0) hj;have e2:sm (fun i=>if i=j then 0 else CN.getD i 0) n=0:=by
        have:sm (fun i=>if i=j then 0 else CN.getD i 0) n=sm (fun _=>0) n:=cD fun i hi=>by
          split
          · rfl
          · rename_i h9;exact hz2 i hi h9
        rw[this,gV,Nat.mul_zero]
      omega
    have:=hm j hj;omega
def yc (CN:List Nat):Nat→Int→Nat:=fun j z=>if z= -2 then CN.getD j 0 else 0
def Ik:Nat→Int→Nat:=fun _ z=>if z= -2 then 0 else z.natAbs
structure D' (CN:List Nat) (NR:List Int) (i:Nat):Prop where
  cls:∀j,j<i→(CN.getD j 0=0∧NR.getD j 0=0)∨(CN.getD j 0≠0∧(NR.getD j 0= -1∨NR.getD j 0=1∨NR.getD j 0= -2))
theorem D'.zero (CN:List Nat) (NR:List Int):D' CN NR 0:=⟨fun j h=>Om⟩
theorem D'.step {CN:List Nat} {NR:List Int} {i:Nat} {v:Int} (h:D' CN NR i) (hi:i<NR.length) (hv:(CN.getD i 0=0∧v=0)∨(CN.getD i 0≠0∧(v= -1∨v=1∨v= -2))):D' CN (NR.set i v) (i+1):=⟨fun j hj=>by
  rw[dK hi];split
  · rename_i e;subst e;exact hv
  · exact h.cls j Om⟩
theorem D'.put {CN:List Nat} {NR:List Int} {i n:Nat} (h:D' CN NR n) (hi:i<NR.length) (hn:i<n) (hv:NR.getD i 0= -2):D' CN (NR.set i 1) n:=⟨fun j hj=>by
  rw[dK hi];split
  · rename_i e;subst e;rcases h.cls i hn with ⟨_,h2⟩|⟨h1,_⟩
    · omega
    · exact .inr ⟨h1,.inr (.inl rfl)⟩
  · exact h.cls j hj⟩
theorem D'.adm {CN:List Nat} {NR:List Int} {n:Nat} (h:D' CN NR n):qO Ik NR n≤n:=by
  have h1:qO Ik NR n≤sm (fun _=>1) n:=FO fun j hj=>by
    unfold Ik;split
    · omega
    · rename_i h9;rcases h.cls j hj with ⟨_,h2⟩|⟨_,h2|h2|h2⟩
      · rw[h2];simp
      · rw[h2];simp
      · rw[h2];simp
      · exact absurd h2 h9
  rwa [gV,Nat.mul_one] at h1
theorem QH {S d A lo L:Nat} (hL:L=5∨L=6) (hS:0<S) (hd:d≤13) (va:lo=3*S/2^(L+1)) (hA:A≤d*lo):A<S:=by
  have h1:d*lo≤13*lo:=Nat.mul_le_mul_right _ hd;rcases hL with rfl|rfl
  · have:lo=3*S/64:=va;omega
  · have:lo=3*S/128:=va;omega
theorem Kz {T T0 d d0 lo L:Nat} (hL:L=5∨L=6) (hT:0<T0) (hd:d≤13) (h0:d0≤d) (va:lo=T0*3/((2^L-d0)*2)) (hA:T0≤T+(d-d0)*lo):0<T:=by
  have hZ:32≤2^L:=by rcases hL with rfl|rfl<;>decide
  have hp:0<(2^L-d0)*2:=Om;have h2:lo*((2^L-d0)*2)≤T0*3:=by rw[va];exact Nat.div_mul_le_self _ _
  apply Classical.byContradiction;intro hn;have Ta:T0≤(d-d0)*lo:=Om;have h3:(d-d0)*lo≤(13-d0)*lo:=Nat.mul_le_mul_right _ Om
  -- T0 * (2 (32 - d0)) ≤ (13 - d0) * lo * 2 (32 - d0) ≤ (13 - d0) * 3 * T0
  have h4:T0*((2^L-d0)*2)≤(13-d0)*(T0*3):=by
    calc T0*((2^L-d0)*2)≤((13-d0)*lo)*((2^L-d0)*2):=Nat.mul_le_mul_right _ Om
      _=(13-d0)*(lo*((2^L-d0)*2)):=Nat.mul_assoc _ _ _
      _≤(13-d0)*(T0*3):=Nat.mul_le_mul_left _ h2
  have h5:T0*((2^L-d0)*2)≤T0*((13-d0)*3):=by
    have e:(13-d0)*(T0*3)=T0*((13-d0)*3):=by rw[Nat.mul_left_comm]
    omega
  have h6:=Nat.le_of_mul_le_mul_left h5 hT;omega
structure Ea (CN:List Nat) (N0 NR:List Int) (n i:Nat) (v rB rs:Nat) (tmp:Nat):Prop where
  rest:∀j,i≤j→NR.getD j 0=N0.getD j 0
  ge:∀j,j<i→ -1≤NR.getD j 0
  z:∀j,j<i→(NR.getD j 0=0↔CN.getD j 0=0)
  at_:tmp=rB+qO (yc CN) N0 i*rs
  sum:qO fA NR i=qO Ik N0 i+tmp/2^v
theorem Ea.zero {CN:List Nat} {NR:List Int} {n v rB rs:Nat} (hm:rB<2^v):Ea CN NR NR n 0 v rB rs rB:=⟨fun _ _=>rfl,fun j h=>Om,fun j h=>Om,by simp[qO,sm],by rw[Nat.div_eq_of_lt hm];rfl⟩
theorem Ea.same {CN:List Nat} {N0 NR:List Int} {n i v rB rs tmp:Nat} (h:Ea CN N0 NR n i v rB rs tmp) (hJ:D' CN N0 n) (hi:i<n) (rT:NR.getD i 0≠ -2):Ea CN N0 NR n (i+1) v rB rs tmp:=by
  have e:=h.rest i (Nat.le_refl _);have hc:=hJ.cls i hi;rw[←e] at hc;refine⟨fun j hj=>h.rest j Om,fun j hj=>?_,fun j hj=>?_,?_,?_⟩
  · by_cases ej:j=i
    · subst ej;omega
    · exact h.ge j Om
  · by_cases ej:j=i
    · subst ej;omega
    · exact h.z j Om
  · rw[nk, ←e,h.at_];simp only[yc,if_neg rT,Nat.add_zero]
  · rw[nk,nk,h.sum, ←e];simp only[fA,Ik,if_neg rT];omega
theorem Ea.next {CN:List Nat} {N0 NR:List Int} {n i v rB rs tmp w:Nat} (h:Ea CN N0 NR n i v rB rs tmp) (hJ:D' CN N0 n) (hi:i<n) (hl:i<NR.length) (he:NR.getD i 0= -2) (hw:w=(tmp+CN.getD i 0*rs)/2^v-tmp/2^v) (h1:1≤w):Ea CN N0 (NR.set i (w:Int)) n (i+1) v rB rs (tmp+CN.getD i 0*rs):=by
  have e:=h.rest i (Nat.le_refl _);have hc:=hJ.cls i hi;rw[←e] at hc;refine⟨fun j hj=>?_,fun j hj=>?_,fun j hj=>?_,?_,?_⟩
  · rw[dK hl,if_neg Om];exact h.rest j Om
  · rw[dK hl];split
    · omega
    · exact h.ge j Om
  · rw[dK hl];split
    · rename_i ej;subst ej;omega
    · exact h.z j Om
  · rw[nk, ←e,h.at_];simp only[yc,if_pos he];rw[Nat.add_mul];omega
  · rw[fy hl,nk,h.sum, ←e];simp only[fA,Ik,if_pos he,Int.natAbs_natCast];omega
theorem Ea.done {CN:List Nat} {N0 NR:List Int} {n L tmp d:Nat} (hL:L=5∨L=6) {v rB rs ff:Nat} (h:Ea CN N0 NR n n v rB rs tmp) (hv:v=62-L) (Hl:rB=2^(v-1)-1) (ht:qO (yc CN) N0 n=ff) (SJ:1≤ff) (Vi:ff≤65536) (hd:qO Ik N0 n=d) (hd2:d≤2^L) (Kw:rs=(2^v*(2^L-d)+rB)/ff):u9 L CN NR n:=by
  refine⟨⟨h.ge,h.z⟩,?_⟩;have hp:65536≤2^(v-1):=by
    have:2^16≤2^(v-1):=Nat.pow_le_pow_right Om (by rcases hL with rfl|rfl<;>omega);omega
  have hs:=DY (v:=v) (D:=2^L-d) (t:=ff) SJ (by rcases hL with rfl|rfl<;>omega) Om;rw[h.sum,hd,h.at_,ht,Kw,Hl,hs];omega
section
variable {α:Type} {f:Nat→α} {L size:Nat} {cs:List Int} {s e k p:Nat} {G G':Nat→α}
theorem sX (hC:cb L cs) (hz:size=2^L) (h:eY size (bQ cs).length (fun i=>f ((lZ cs).getD i 0)) G 0 (jW cs s)) (va:cs.getD s 0= -1) (he:e+jW cs s+1=size) (e1:G' e=f s) (o:∀u,u≠e→G' u=G u):eY size (bQ cs).length (fun i=>f ((lZ cs).getD i 0)) G' 0 (jW cs (s+1)):=by
  subst hz;have hs:=hC.sz;have ha:=hC.all.1;have hl:=QD hC va;have h9:jW cs (s+1)=jW cs s+1:=by rw[fu,va];rfl
  rw[h9];refine h.low hs hl ?_ ?_
  · rw[show 2^L-1-jW cs s=e by omega,e1, ←ha,Kp va]
  · intro u hu;exact o u Om
theorem pB (h:eY size (bQ cs).length (fun i=>f ((lZ cs).getD i 0)) G 0 (jW cs s)) (va:0≤cs.getD s 0):eY size (bQ cs).length (fun i=>f ((lZ cs).getD i 0)) G 0 (jW cs (s+1)):=by
  have h9:jW cs (s+1)=jW cs s:=by rw[fu];omega
  rwa [h9]
theorem QI (hC:cb L cs) (hz:size=2^L) (hk:k<(cs.getD s 0).toNat):dT cs s+k<size-(bQ cs).length:=by
  have ha:=hC.all.1;have:=BV (cs:=cs) (s:=s+1);rw[gf] at this;omega
theorem qg (hC:cb L cs) (hz:size=2^L) (h:eY size (bQ cs).length (fun i=>f ((lZ cs).getD i 0)) G (dT cs s+k) (bQ cs).length) (hk:k<(cs.getD s 0).toNat) (hp:p=tW size (bQ cs).length (dT cs s+k)) (e1:G' p=f s) (o:∀u,u≠p→G' u=G u):eY size (bQ cs).length (fun i=>f ((lZ cs).getD i 0)) G' (dT cs s+(k+1)) (bQ cs).length:=by
  have eU:=QI hC hz hk;subst hz;have hs:=hC.sz;rw[QC hs eU] at hp;exact h.flat hs eU hp (by rw[e1,He hk]) o
theorem uC (hC:cb L cs) (hz:size=2^L) (h:eY size (bQ cs).length (fun i=>f ((lZ cs).getD i 0)) G (dT cs s) (bQ cs).length) (hs:cs.length≤s) {u:Nat} (hu:u<size):G u=f ((dm L cs).getD u 0):=by
  subst hz;rw[zo hs,hC.all.1] at h;rw[h.done hC.sz hu,DX hu]
theorem w9 (hC:cb L cs) (hz:size=2^L):0=tW size (bQ cs).length (dT cs 0):=by subst hz;exact(Km hC.sz).symm
theorem KA (hC:cb L cs) (hz:size=2^L) (hs:cs.length≤s):tW size (bQ cs).length (dT cs s)=0:=by subst hz;rw[zo hs,hC.all.1];exact Kn hC.sz
theorem FW (hC:cb L cs) (hz:size=2^L) (k:Nat):tW size (bQ cs).length k+(bQ cs).length<size:=by subst hz;exact U4 hC.sz k
theorem FX (hC:cb L cs) (hz:size=2^L) (k:Nat):goM size (bQ cs).length size ((tW size (bQ cs).length k+fq size)%size)=tW size (bQ cs).length (k+1):=by subst hz;exact Ko hC.sz k
theorem vL (hC:cb L cs) (hz:size=2^L) {w t:Nat} (h:goM size (bQ cs).length size w=t) (hw:w+(bQ cs).length<size):w=t:=by subst hz;rw[Kg hC.sz hw] at h;exact h
theorem mF (hC:cb L cs) (hz:size=2^L) {w t:Nat} (h:goM size (bQ cs).length size w=t) (hw:w<size) (hn:¬w+(bQ cs).length<size):goM size (bQ cs).length size ((w+fq size)%size)=t∧stM size (bQ cs).length size ((w+fq size)%size)<stM size (bQ cs).length size w:=by
  subst hz;obtain⟨h1,h2⟩:=Kh hC.sz hw hn;exact⟨by rw[←h1];exact h,h2⟩
theorem Av (hC:cb L cs):(bQ cs).length≤13:=by have:=hC.sz.2;omega
end
theorem FY {Z:List Int} {i:Nat} {v:Int} (h:i<Z.length):(Z.set i v).getD i 0=v:=by rw[dK h,if_pos rfl]
theorem B3 {Z:List Int} {i u:Nat} {v:Int} (h:i<Z.length) (hu:u≠i):(Z.set i v).getD u 0=Z.getD u 0:=by rw[dK h,if_neg (fun e=>hu e.symm)]
theorem KB {xs:List Nat} (hb:Bytes xs) (p:Nat):uj xs p=tailV xs 0 xs.length/2^p%2:=by
  rcases Nat.lt_or_ge (p/8) xs.length with h|h
  · exact y' hb h
  · rw[BE h];have h1:=gp hb 0 xs.length;have h2:2^(8*xs.length)≤2^p:=Nat.pow_le_pow_right Om Om;rw[Nat.div_eq_of_lt Om]
theorem QJ {xs:List Nat} {n:Nat} (hb:Bytes xs) (hl:xs.length=n) {p m:Nat} (h:(p:Int)=(m:Int)):uj xs p=tailV xs 0 n/2^m%2:=by
  have e:p=m:=Om;rw[←e, ←hl];exact KB hb p
theorem Eb {V x p i:Nat} (h:x=V/2^(p+1)%2^i):2*x+V/2^p%2=V/2^p%2^(i+1):=by
  have e1:V/2^(p+1)=V/2^p/2:=by rw[Nat.pow_succ,Nat.div_div_eq_div_mul]
  rw[e1] at h;rw[h,Nat.pow_succ,Nat.mul_comm (2^i) 2,Nat.mod_mul];omega
theorem KC {xs:List Nat} {n N R:Nat} (hb:Bytes xs) (hl:xs.length=n) (hn:n=N/8+1) (hR:R<2^N) (hv:tailV xs 0 n=2^N+R):xs.getD (n-1) 0≠0∧8*(n-1)+(aj (xs.getD (n-1) 0)-1)=N:=by
  obtain⟨m,rfl⟩:∃m,n=m+1:=⟨n-1,Om⟩;rw[Nat.add_sub_cancel];have ht:=gp hb 0 m;simp only[tailV,Nat.zero_add] at hv;obtain⟨d,hd⟩:∃d,N=8*m+d:=⟨N-8*m,Om⟩;subst hd;have e:2^(8*m+d)=2^d*2^(8*m):=by rw[Nat.pow_add,Nat.mul_comm]
  have hp:0<2^(8*m):=Nat.two_pow_pos _;rw[e] at hv hR;generalize xs.getD m 0=x at*;generalize tailV xs 0 m=t at*;generalize 2^(8*m)=q at*;have h1:2^d≤x:=by
    apply Nat.le_of_lt_succ;apply Nat.lt_of_mul_lt_mul_right (a:=q);rw[Nat.succ_mul];omega
  have h2:x<2^(d+1):=by
    apply Nat.lt_of_mul_lt_mul_right (a:=q);rw[Nat.pow_succ 2 d,Nat.mul_right_comm];omega
  have h3:aj x=d+1:=jU (by rw[Nat.add_sub_cancel];exact h1) h2 Om;have h4:0<2^d:=Nat.two_pow_pos _;exact⟨Om,by rw[h3];omega⟩
theorem zq {T:List Cell} {text A:List Nat} {V i l:Nat} (hT:ju 5 T text A) (hi:i+2<text.length) (hl:l=fN T (A.drop i)) (hV:V%2^l=fR T (A.drop i)):
    (T.getD (A.getD i 0) (0,0,0)).2.1≤l∧l-(T.getD (A.getD i 0) (0,0,0)).2.1=fN T (A.drop (i+1))∧(T.getD (A.getD i 0) (0,0,0)).2.2+V/2^(l-(T.getD (A.getD i 0) (0,0,0)).2.1)%2^(T.getD (A.getD i 0) (0,0,0)).2.1=A.getD (i+2) 0∧V%2^(l-(T.getD (A.getD i 0) (0,0,0)).2.1)=fR T (A.drop (i+1)):=by
  obtain⟨e1,e2⟩:=qa (T:=T) (at_:=A) (i:=i) (by rw[hT.len];exact hi);have eU:=ju.UO hT _ (i+1) rfl;have hs:=hT.step i hi;generalize (T.getD (A.getD i 0) (0,0,0)).2.1=b at*;generalize (T.getD (A.getD i 0) (0,0,0)).2.2=s at*;generalize fN T (A.drop (i+1))=m at*;generalize fR T (A.drop (i+1))=r at*;rw[hl,e1] at hV ⊢;rw[e2] at hV;rw[Nat.add_sub_cancel_left];have hm:0<2^m:=Nat.two_pow_pos _;have e3:V%2^(b+m)=V%2^m+2^m*(V/2^m%2^b):=by rw[Nat.add_comm b m,Nat.pow_add,Nat.mod_mul]
  rw[e3] at hV;have h4:V%2^m<2^m:=Nat.mod_lt _ hm;have h5:V/2^m%2^b=A.getD (i+2) 0-s:=by
    have:=congrArg (· /2^m) hV;rw[Nat.add_mul_div_left _ _ hm,Nat.div_eq_of_lt h4,Nat.add_comm (_*_) r,Nat.add_mul_div_right _ _ hm,Nat.div_eq_of_lt eU] at this;omega
  refine⟨Om,rfl,Om,?_⟩;rw[h5,Nat.mul_comm (2^m)] at hV;omega
theorem xc {T:List Cell} {text A:List Nat} {V:Nat} (hT:ju 5 T text A) (hV:V=2^(2*5+fN T A)+((A.getD 0 0*2^5+A.getD 1 0)*2^fN T A+fR T A)):
    V/2^(10+fN T A-5)%2^5=A.getD 0 0∧V/2^(10+fN T A-5-5)%2^5=A.getD 1 0∧V%2^fN T A=fR T A:=by
  have h1:fR T A<2^fN T A:=by have:=ju.UO hT _ 0 rfl;rwa [List.drop_zero] at this
  have Kl:∀i,A.getD i 0<32:=fun i=>by
    rcases Nat.lt_or_ge i A.length with hi|hi
    · have:=hT.lt (A.getD i 0) (by simp[List.getD_eq_getElem?_getD,hi]);omega
    · rw[List.getD_eq_getElem?_getD,List.getElem?_eq_none hi];decide
  have ha:=Kl 0;have hb:=Kl 1;generalize A.getD 0 0=a at*;generalize A.getD 1 0=b at*;generalize fN T A=m at*;generalize fR T A=r at*;have hm:0<2^m:=Nat.two_pow_pos _;have e0:V=(1024+(a*32+b))*2^m+r:=by
    have e9:2^(2*5+m)=1024*2^m:=by rw[Nat.pow_add]
    have e8:a*2^5=a*32:=rfl;rw[hV,e9,e8,Nat.add_mul 1024,Nat.add_assoc]
  have e1:V/2^m=1024+(a*32+b):=by
    rw[e0,Nat.add_comm,Nat.add_mul_div_right _ _ hm,Nat.div_eq_of_lt h1,Nat.zero_add]
  refine⟨?_,?_,?_⟩
  · rw[show 10+m-5=m+5 by omega,Nat.pow_add, ←Nat.div_div_eq_div_mul,e1];omega
  · rw[show 10+m-5-5=m by omega,e1];omega
  · rw[e0,Nat.add_comm,Nat.add_mul_mod_self_right,Nat.mod_eq_of_lt h1]
theorem Aw:∀(ws:List Nat) (i:Nat),ft ws 15→(nib ws).getD i 0/16=ws.getD (2*i) 0∧(nib ws).getD i 0%16=ws.getD (2*i+1) 0∧(nib ws).getD i 0<256
  |[],i,_=>by simp[nib]
  |[a],0,h=>by
    have ha:=h a List.mem_cons_self;simp only[nib,List.getD_cons_zero,Nat.mul_zero,Nat.zero_add,List.getD_cons_succ];refine⟨Om,?_,Om⟩;show a*16%16=0;omega
  |[a],i+1,h=>by simp[nib,Nat.mul_add,List.getD_eq_getElem?_getD]
  |a::b::r,0,h=>by
    have ha:=h a List.mem_cons_self;have hb:=h b (List.mem_cons_of_mem _ List.mem_cons_self);simp only[nib,List.getD_cons_zero,Nat.mul_zero,Nat.zero_add,List.getD_cons_succ];omega
  |a::b::r,i+1,h=>by
    have:=Aw r i (fun x hx=>h x (List.mem_cons_of_mem _ (List.mem_cons_of_mem _ hx)));rw[show 2*(i+1)=2*i+1+1 by omega];simp only[nib,List.getD_cons_succ];exact this
theorem HW.B4 {ls:List Nat} {L last:Nat} (h:HW ls L last) (hw:iE ls):1≤last:=Classical.byContradiction fun hn=>by
  have e:last=0:=Om;obtain⟨h1,h2,h3⟩:=px h hw;subst e;have h4:cellsW (cH ls L 0)=0:=rfl;have h5:(2:Nat)^(L-ls.getD 0 0)<2^L:=Nat.pow_lt_pow_right Om Om;omega
theorem adn {D D8:List Nat} {a i e:Nat} (h:D8=cG D a (List.replicate i e)) (hl:a+i+4≤D.length):(((D8.set (a+i) e).set (a+i+1) e).set (a+i+2) e).set (a+i+3) e=cG D a (List.replicate (i+4) e):=by
  subst h;rw[py Om,show a+i+1=a+(i+1) by omega,py Om,show a+i+2=a+(i+1+1) by omega,py Om,show a+i+3=a+(i+1+1+1) by omega,py Om]
theorem ado {D D8:List Nat} {a i e:Nat} (h:D8=cG D a (List.replicate i e)) (hl:a+i<D.length):D8.set (a+i) e=cG D a (List.replicate (i+1) e):=by
  subst h;exact py hl
theorem QK {a n:Nat} (h:a<256):a|||256*n=a+256*n:=by
  have:=fV (a:=n) (b:=a) (n:=8) h;rw[show n*2^8=256*n by omega] at this;omega
theorem pC {x y:Nat} (h:x<16) (k:y<16):x|||y<16:=Nat.or_lt_two_pow (n:=4) h k
theorem KD {w:Nat} (h:1≤w):2^w/2^1=2^(w-1):=by
  obtain⟨m,rfl⟩:∃m,w=m+1:=⟨w-1,Om⟩;rw[Nat.pow_succ,Nat.add_sub_cancel];omega
theorem KE {m:Nat} (h:4≤2^m):2^m%4=0:=by
  have h2:2≤m:=Classical.byContradiction fun hn=>by
    have:=Nat.pow_le_pow_right (show 0<2 by omega) (show m≤1 by omega);omega
  obtain⟨k,rfl⟩:∃k,m=k+2:=⟨m-2,Om⟩;rw[Nat.pow_add];omega
theorem Hm {W ws:List Nat} {n j:Nat} (h:W.take n=ws) (hj:j<n):W.getD j 0=ws.getD j 0:=by
  rw[←h];simp[List.getD_eq_getElem?_getD,List.getElem?_take,hj]
theorem KF {W ws aw:List Nat} {n x j:Nat} (h:∀j,j<n→W.getD j 0=ws.getD j 0) (hw:ws.length=n) (hl:n<W.length) (e:aw=ws++[x]) (hj:j<n+1):(W.set n x).getD j 0=aw.getD j 0:=by
  subst e;rw[ij hl];by_cases e2:n=j
  · subst e2;rw[if_pos rfl,rA Om,hw,Nat.sub_self];rfl
  · rw[if_neg e2,DW Om];exact h j Om
structure Ax (ws aw:List Nat) (L last nl:Nat):Prop where
  wl:ws.length=last
  wL:∀w ∈ ws,w≤L
  al:aw.length=last+1
  aL:∀w ∈ aw,w≤L
  ea:aw=ws++[L-nl+1]
  L1:1≤L∧L≤11
  nl1:1≤nl∧nl≤L
  B4:1≤last∧last≤255
  sum:cellsW ws+2^(L-nl)=2^L
  adp:cellsW aw=2^L
  log:aj (cellsW ws)=L∧2^(L-1)≤cellsW ws
  ev:2≤aw.count 1∧aw.count 1%2=0
theorem Ax.of {ls ws aw:List Nat} {L last nl:Nat} (h:HW ls L last) (hw:iE ls) (he:iW ls) (h1:ws=cH ls L last) (h2:aw=kR ls L last) (h3:nl=ls.getD last 0):Ax ws aw L last nl:=by
  subst h1;subst h2;subst h3;have hl:=h.lt;have BC:=hw.1;obtain⟨s1,s2,s3⟩:=px h hw;refine⟨kA Om,sK,u4 h,Ai,?_,⟨h.L1,h.L11 hw⟩,⟨s2,s3⟩,⟨h.B4 hw,Om⟩,s1,pt h hw (h.L11 hw),BQ h hw,Ak h (h.L11 hw) he⟩;rw[zk h];have:=h.nz;unfold sJ;rw[if_neg this];congr 2;omega
theorem ft.of {ws:List Nat} {L:Nat} (h:∀w ∈ ws,w≤L) (i:Nat):ws.getD i 0≤L:=ft.at_ (b:=L) h i
theorem oh {ws:List Nat} {L v:Nat} (h:∀w ∈ ws,w≤L) (hv:L<v):ws.count v=0:=List.count_eq_zero.2 fun hm=>by have:=h v hm;omega
theorem pD {cs:List Int} (h:cb 5 cs) {u:Nat} (hu:u<32):((dY 5 cs).getD u (0,0,0)).1<cs.length∧((dY 5 cs).getD u (0,0,0)).2.1≤5∧((dY 5 cs).getD u (0,0,0)).2.2+2^((dY 5 cs).getD u (0,0,0)).2.1≤32:=by
  obtain⟨s,k,e,_,h3,_,h1,h2,h4,h5,h6,h7⟩:=lX h (u:=u) hu;rw[e];exact⟨h3,h5,h7⟩
theorem FZ {At:List Nat} {tn v:Nat} (hl:At.length=2) (ht:tn≤1):(At.set tn v).getD (1-(1-tn)) 0=v∧(At.set tn v).getD (1-tn) 0=At.getD (1-tn) 0:=by
  rw[aH Om,aH Om,if_pos Om,if_neg Om];exact⟨rfl,rfl⟩
theorem ju.oE {T:List Cell} {text A:List Nat} (h:ju 5 T text A) (i:Nat):A.getD i 0<32:=by
  rcases Nat.lt_or_ge i A.length with hi|hi
  · exact h.lt (A.getD i 0) (by simp[List.getD_eq_getElem?_getD,hi])
  · rw[List.getD_eq_getElem?_getD,List.getElem?_eq_none hi];decide
theorem KG {T:List Cell} {text A:List Nat} {i l:Nat} (hT:ju 5 T text A) (hE:∀i,i<text.length→text.length≤i+2→1≤(T.getD (A.getD i 0) (0,0,0)).2.1) (hi:i+2≤text.length) (hl:l=fN T (A.drop i)):l<(T.getD (A.getD i 0) (0,0,0)).2.1↔i+2=text.length:=by
  constructor
  · intro h;apply Classical.byContradiction;intro hn;have:=(zq (V:=fR T (A.drop i)) hT Om hl (by rw[hl];exact Nat.mod_eq_of_lt (ju.UO hT _ i rfl))).1;omega
  · intro h;have h1:=(pj (T:=T) (at_:=A) (i:=i) (by rw[hT.len];omega)).1;have h2:=hE i Om Om;omega
theorem KH {text P:List Nat} {m a b:Nat} (hP:P=text.take m) (hm:m+2=text.length) (ha:a=text.getD m 0) (hb:b=text.getD (m+1) 0):(P++[a])++[b]=text:=by
  rw[hP,ha,hb, ←cP Om, ←cP Om,List.take_of_length_le Om]
def ko (ws ys:List Nat):Prop:=(ws.length≤128∧ys=[127+ws.length]++nib ws)∨(∃cs b,gl 5 cs ws b∧b.length≤127∧ys=[b.length]++b)
theorem cK.adq {cs:List Int} {E:List Nat} (h:cK 32 cs E):5≤E.length:=by
  obtain⟨n,t,b,hE,_⟩:=h.inv Om;have:=lV (cl:=32+1) (v:=(n+1).toNat);have h7:aj (32+1)=6:=Od;rw[hE,List.length_append];omega
theorem ja.two {T:List Cell} {ws ys:List Nat} (h:ja 5 T ws ys):2≤ys.length:=by
  obtain⟨A,h1,_,h2,h3,h4⟩:=h.ex;omega
theorem gl.QL {cs:List Int} {ws b:List Nat} (h:gl 5 cs ws b):4≤b.length:=by
  obtain⟨E,hD,hL,h1,h2,hp⟩:=h.read;have a:=hp.two;have c:=cK.adq hD;rw[List.length_drop] at a;omega
theorem ko.at_ {ws ys xs:List Nat} {ki li x0:Nat} (h:ko ws ys) (h1:1≤ws.length) (Il:ys.length=li) (uD:∀i,i<li→xs.getD (ki+i) 0=ys.getD i 0) (Ij:xs.getD ki 0=x0):
    2≤li∧((ws.length≤128∧x0=127+ws.length∧li=1+(ws.length+1)/2∧∀i,i<(ws.length+1)/2→xs.getD (ki+1+i) 0=(nib ws).getD i 0)∨
      (∃cs b,gl 5 cs ws b∧b.length=x0∧x0≤127∧li=1+x0∧(∀i,i<x0→xs.getD (ki+1+i) 0=b.getD i 0)∧ys=[b.length]++b)):=by
  rcases h with ⟨h2,h3⟩|⟨cs,b,h4,h5,h6⟩
  · have hn:(nib ws).length=(ws.length+1)/2:=ru ws;have KI:li=1+(ws.length+1)/2:=by rw[←Il,h3,List.length_append,hn];rfl
    refine⟨Om,.inl ⟨h2,?_,KI,fun i hi=>?_⟩⟩
    · have:=uD 0 Om;rw[Nat.add_zero,h3] at this;rw[←Ij,this];rfl
    · rw[Nat.add_assoc,uD _ Om,h3,rA Oi,show 1+i-[127+ws.length].length=i by simp]
  · have z9:=h4.QL;have KI:li=1+b.length:=by rw[←Il,h6,List.length_append];rfl
    have hx:x0=b.length:=by
      have:=uD 0 Om;rw[Nat.add_zero,h6] at this;rw[←Ij,this];rfl
    refine⟨Om,.inr ⟨cs,b,h4,hx.symm,Om,Om,fun i hi=>?_,h6⟩⟩;rw[Nat.add_assoc,uD _ Om,h6,rA Oi,show 1+i-[b.length].length=i by simp]
theorem Vj {ws:List Nat} (h:∀w ∈ ws,w≤15) {i v:Nat} (hv:v=(nib ws).getD (i/2) 0):v<256∧(i%2=0→v/16%16=ws.getD i 0)∧(i%2≠0→v%16=ws.getD i 0):=by
  subst hv;obtain⟨h1,h2,h3⟩:=Aw ws (i/2) (fun x hx=>h x hx);refine⟨h3,fun he=>?_,fun he=>?_⟩
  · rw[show 2*(i/2)=i by omega] at h1;have:ws.getD i 0≤15:=ft.at_ (b:=15) h i;omega
  · rw[show 2*(i/2)+1=i by omega] at h2;exact h2
theorem B5 {ws:List Nat} {i:Nat} (hi:i<ws.length):cellsW (ws.take (i+1))=cellsW (ws.take i)+(if ws.getD i 0=0 then 0 else 2^(ws.getD i 0-1)):=by
  rw[cP hi,kJ];rfl
theorem Hn (ws:List Nat) (i:Nat):cellsW (ws.take i)≤cellsW ws:=by
  have:=kJ (ws.take i) (ws.drop i);rw[List.take_append_drop] at this;omega
def khL (m:Nat):List Nat→Nat
  |[]=>0
  |x::xs=>(if m≤x then 2^(11-x) else 0)+khL m xs
def klL (m:Nat):List Nat→Nat
  |[]=>0
  |x::xs=>(if x=0 then 0 else if x<m then 2^(11-x) else 0)+klL m xs
theorem xd {m:Nat} (hm:1≤m):∀ls:List Nat,gU ls=khL m ls+klL m ls
  |[]=>rfl
  |x::xs=>by
    simp only[gU,khL,klL,xd hm xs];by_cases h0:x=0
    · rw[if_pos h0,if_pos h0,if_neg Om];omega
    · rw[if_neg h0,if_neg h0];by_cases h1:m≤x
      · rw[if_pos h1,if_neg Om];omega
      · rw[if_neg h1,if_pos Om];omega
theorem xf (m:Nat):∀ls:List Nat,khL m ls=khL (m+1) ls+ls.count m*2^(11-m)
  |[]=>by simp[khL]
  |x::xs=>by
    simp only[khL,xf m xs,List.count_cons];by_cases h:x=m
    · subst h;rw[if_pos (Nat.le_refl _),if_neg Om,if_pos Oi,Nat.add_mul];omega
    · rw[if_neg (show¬(x==m)=true by simpa using h)];simp only[Nat.add_zero];by_cases h1:m≤x
      · rw[if_pos h1,if_pos Om];omega
      · rw[if_neg h1,if_neg Om];omega
theorem Ay {m:Nat} (hm:m≤12):∀ls:List Nat,2^(12-m)∣klL m ls
  |[]=>by simp[klL]
  |x::xs=>by
    simp only[klL];refine Nat.dvd_add ?_ (Ay hm xs);split
    · exact Nat.dvd_zero _
    · split
      · exact Nat.pow_dvd_pow 2 Om
      · exact Nat.dvd_zero _
theorem QM {ls:List Nat} (h:ft ls 11):khL 12 ls=0:=by
  induction ls with
  |nil=>rfl
  |cons x xs ih=>
    have:=h x List.mem_cons_self;simp only[khL];rw[if_neg Om,ih fun y hy=>h y (List.mem_cons_of_mem _ hy)]
theorem iE.even {ls:List Nat} (h:iE ls):iW ls:=by
  obtain⟨h1,h2,h3,h4⟩:=h;have key:∀d,d≤10→(yp ls (11-d)+ls.count (11-d))*2^d=khL (11-d) ls∧(yp ls (11-d)+ls.count (11-d))%2=0:=by
    intro d;have fin:d≤10→(yp ls (11-d)+ls.count (11-d))*2^d=khL (11-d) ls→(yp ls (11-d)+ls.count (11-d))%2=0:=fun hd e=>by
      have k1:=xd (m:=11-d) Om ls;have k2:=Ay (m:=11-d) Om ls;rw[show 12-(11-d)=d+1 by omega] at k2;have k3:2^(d+1)∣gU ls:=by rw[h3];exact Nat.pow_dvd_pow 2 (show d+1≤11 by omega)
      rw[k1] at k3;have k4:=(Nat.dvd_add_left k2).1 k3;rw[←e,Nat.pow_succ,Nat.mul_comm (2^d) 2] at k4;have k5:=Nat.dvd_of_mul_dvd_mul_right (Nat.two_pow_pos d) k4;omega
    induction d with
    |zero=>
      intro hd;have e:(yp ls (11-0)+ls.count (11-0))*2^0=khL (11-0) ls:=by
        have t:=xf 11 ls;rw[QM h2] at t;have n0:yp ls 11=0:=Aj h2 Om;simp only[Nat.sub_zero,n0,Nat.pow_zero,Nat.mul_one,Nat.zero_add] at t ⊢;simpa using t.symm
      exact⟨e,fin hd e⟩
    |succ d ih=>
      intro hd;have adr:d≤10→(yp ls (11-d)+ls.count (11-d))*2^d=khL (11-d) ls→(yp ls (11-d)+ls.count (11-d))%2=0:=fun hd e=>by
        have k1:=xd (m:=11-d) Om ls;have k2:=Ay (m:=11-d) Om ls;rw[show 12-(11-d)=d+1 by omega] at k2;have k3:2^(d+1)∣gU ls:=by rw[h3];exact Nat.pow_dvd_pow 2 (show d+1≤11 by omega)
        rw[k1] at k3;have k4:=(Nat.dvd_add_left k2).1 k3;rw[←e,Nat.pow_succ,Nat.mul_comm (2^d) 2] at k4;have k5:=Nat.dvd_of_mul_dvd_mul_right (Nat.two_pow_pos d) k4;omega
      obtain⟨i1,i2⟩:=ih adr Om;have np:=wM ls (m:=11-d) Om Om;rw[show 11-d-1=11-(d+1) by omega] at np;have st:=xf (11-(d+1)) ls;rw[show 11-(d+1)+1=11-d by omega,show 11-(11-(d+1))=d+1 by omega] at st;have e2:yp ls (11-(d+1))*2^(d+1)=khL (11-d) ls:=by
        rw[←i1,np,Nat.pow_succ,Nat.mul_comm (2^d) 2, ←Nat.mul_assoc];congr 1;omega
      have e:(yp ls (11-(d+1))+ls.count (11-(d+1)))*2^(d+1)=khL (11-(d+1)) ls:=by rw[Nat.add_mul,e2,st]
      exact⟨e,fin hd e⟩
  intro m m1 m2;have:=(key (11-m) Om).2;rwa [show 11-(11-m)=m by omega] at this
theorem QN {ls:List Nat} {L last i:Nat} (h:last<ls.length) (hi:i≤last):(kR ls L last).getD i 0=if ls.getD i 0=0 then 0 else L+1-ls.getD i 0:=by
  simp[kR,List.getD_eq_getElem?_getD,show i<last+1 by omega,show i<ls.length by omega,sJ]
theorem QO {ls R:List Nat} {L last i:Nat} (h:HW ls L last) (h1:R.length=ls.length) (hi:last<i) (hv:∀j,j<i→R.getD j 0=ls.getD j 0) (hz:∀j,i≤j→R.getD j 0=0):R=ls:=by
  apply List.ext_getElem h1;intro j h2 h3;have e:R.getD j 0=ls.getD j 0:=by
    rcases Nat.lt_or_ge j i with h4|h4
    · exact hv j h4
    · rw[hz j h4,h.z j Om]
  simpa [List.getD_eq_getElem?_getD,h2,h3] using e
def BR.qP (s:BR) (n:Nat):Nat:=if n=0 then 0 else s.iL n
theorem BR.KJ {s:BR} (h:s.rd<256):s.gb 0=s:=by
  unfold BR.gb;rw[Nat.add_zero,Nat.mod_eq_of_lt h]
structure Az (T:List Cell):Prop where
  len:T.length=32
  cell:∀u,u<32→(T.getD u (0,0,0)).2.1≤5∧(T.getD u (0,0,0)).2.2+2^(T.getD u (0,0,0)).2.1≤32∧(T.getD u (0,0,0)).1<256
theorem Az.of {cs:List Int} (hC:cb 5 cs):Az (dY 5 cs):=by
  refine⟨kI,fun u hu=>?_⟩;obtain⟨h1,h2,h3⟩:=pD hC hu;have:=hC.len;exact⟨h2,h3,Om⟩
def B7 (T:List Cell):Prop:=∀u,u<32→1≤(T.getD u (0,0,0)).2.1
theorem B7.of {cs:List Int} (hC:cb 5 cs) (h:∀i,(aU cs).getD i 0<16):B7 (dY 5 cs):=fun u hu=>by
  obtain⟨s,k,e,hs,hl,hk,h1,h2,h3,h4,h5,h6⟩:=lX hC (u:=u) hu;have hn:=h s;have:=JY (log:=5) h1 h3 Om;rw[e];exact this
section
variable {xs text A:List Nat} {k len i:Nat} {T:List Cell} {s:BR}
theorem jS.vb (h:jS xs k len T A i s) (hT:ju 5 T text A) (hp:0<8*s.off+(64-s.rd)):i+2<text.length:=by
  refine Classical.byContradiction fun hn=>?_
  have h1:=(pj (T:=T) (at_:=A) (i:=i) (by rw[hT.len];omega)).1;have h2:=h.pos.n;omega
theorem jS.ads (h:jS xs k len T A i s) (hT:ju 5 T text A) (hE:∀i,i<text.length→text.length≤i+2→1≤(T.getD (A.getD i 0) (0,0,0)).2.1) (hi:i<text.length):((64≤s.rd∧s.off=0)∧0<(T.getD (A.getD i 0) (0,0,0)).2.1)↔text.length≤i+2:=by
  have h2:=h.pos.n;have h3:=h.pos.rd;constructor
  · intro ⟨⟨h4,h5⟩,h7⟩;refine Classical.byContradiction fun hn=>?_
    have e:=(qa (T:=T) (at_:=A) (i:=i) (by rw[hT.len];omega)).1;omega
  · intro h4;have h1:=(pj (T:=T) (at_:=A) (i:=i) (by rw[hT.len];exact h4)).1;have:=hE i hi h4;omega
theorem jS.sY (h:jS xs k len T A i s) (hT:ju 5 T text A) (hO:Az T) (hb:Bytes xs) (hi:i+2<text.length) (hr:s.rd+5≤64∨s.off=0):
    s.rd+(T.getD (A.getD i 0) (0,0,0)).2.1≤64∧(T.getD (A.getD i 0) (0,0,0)).2.2+s.qP (T.getD (A.getD i 0) (0,0,0)).2.1=A.getD (i+2) 0∧jS xs k len T A (i+1) (s.gb (T.getD (A.getD i 0) (0,0,0)).2.1)∧(s.gb (T.getD (A.getD i 0) (0,0,0)).2.1).rd≤s.rd+5:=by
  have hc:=hO.cell _ (hT.oE i);have lz:=h.pos.rd;by_cases h0:(T.getD (A.getD i 0) (0,0,0)).2.1=0
  · obtain⟨e1,e2⟩:=qa (T:=T) (at_:=A) (i:=i) (by rw[hT.len];exact hi);have hs:=hT.step i hi;rw[h0] at e1 hs ⊢;rw[Nat.zero_add] at e1;rw[Nat.pow_zero] at hs;rw[show A.getD (i+2) 0-(T.getD (A.getD i 0) (0,0,0)).2.2=0 by omega,Nat.zero_mul,Nat.zero_add] at e2;have hp:=h.pos;rw[e1,e2] at hp;rw[BR.KJ Om];exact⟨Om,by unfold BR.qP;rw[if_pos rfl];omega,⟨hp⟩,Om⟩
  · obtain⟨h1,h2,h3⟩:=h.bits hT hb hi Om Om (hr.imp Om id);exact⟨h1,by unfold BR.qP;rw[if_neg h0];exact h2,h3,by show(s.rd+_)%256≤_;omega⟩
end
theorem jS.Vk {xs text A:List Nat} {k len:Nat} {T:List Cell} (hT:ju 5 T text A) (hb:Bytes xs) (hl:len=(2*5+fN T A)/8+1) (hv:tailV xs k len=2^(2*5+fN T A)+((A.getD 0 0*2^5+A.getD 1 0)*2^fN T A+fR T A)):
    0<xs.getD (k+(len-1)) 0∧(BR.gj xs k len).rd<64∧(BR.gj xs k len).OK len∧(BR.gj xs k len).iL 5=A.getD 0 0∧((BR.gj xs k len).gb 5).rd<64∧((BR.gj xs k len).gb 5).OK len∧((BR.gj xs k len).gb 5).iL 5=A.getD 1 0∧jS xs k len T A 0 (((BR.gj xs k len).gb 5).gb 5):=by
  have hR:=uy hT;have h0:=hT.oE 0;have h1:=hT.oE 1;have hf:fR T A<2^fN T A:=by have:=ju.UO hT _ 0 rfl;rwa [List.drop_zero] at this
  have hP:iA xs k len (BR.gj xs k len) (2*5+fN T A) ((A.getD 0 0*2^5+A.getD 1 0)*2^fN T A+fR T A)∧0<xs.getD (k+(len-1)) 0∧(BR.gj xs k len).rd+10≤64:=by
    rcases iA.sF hb hl hR hv with ⟨a,b,c⟩|⟨a,b,c⟩
    · exact⟨a,b,Om⟩
    · have:=a.n;have:=a.rd;exact⟨a,b,Om⟩
  obtain⟨Vl,hx,lz⟩:=hP;generalize BR.gj xs k len=s at*;have pos:0<2^fN T A:=Nat.pow_pos Om;have p6:(2:Nat)^(5+fN T A)=2^5*2^fN T A:=Nat.pow_add _ _ _;generalize hn:fN T A=n at*;generalize A.getD 0 0=a at*;generalize A.getD 1 0=c at*;generalize hr:fR T A=r at*;obtain⟨yu,_⟩:=Vl.bits hb (m:=5) Om Om Om;have Bd:=Vl.skip hb (m:=5) Om;have akz:(s.gb 5).rd=s.rd+5:=by show(s.rd+5)%256=_;omega
  rw[show 2*5+n-5=5+n by omega] at yu Bd;have e0:(a*2^5+c)*2^n+r=a*2^(5+n)+(c*2^n+r):=by rw[p6,Nat.add_mul,Nat.mul_assoc];omega
  have eU:c*2^n+r<2^(5+n):=by
    have:(c+1)*2^n≤2^5*2^n:=Nat.mul_le_mul_right _ Om;rw[Nat.add_mul,Nat.one_mul] at this;omega
  have p6':0<2^(5+n):=Nat.pow_pos Om;rw[e0,Nat.add_comm (_*_),Nat.add_mul_div_right _ _ p6',Nat.div_eq_of_lt eU,Nat.zero_add] at yu;rw[e0,Nat.add_comm (_*_),Nat.add_mul_mod_self_right,Nat.mod_eq_of_lt eU] at Bd;obtain⟨ry,_⟩:=Bd.bits hb (m:=5) Om Om Om;have Dp:=Bd.skip hb (m:=5) Om;rw[show 5+n-5=n by omega] at ry Dp;rw[Nat.add_comm (_*_),Nat.add_mul_div_right _ _ pos,Nat.div_eq_of_lt hf,Nat.zero_add] at ry;rw[Nat.add_comm (_*_),Nat.add_mul_mod_self_right,Nat.mod_eq_of_lt hf] at Dp;exact⟨hx,Om,Vl.ok,yu,Om,Bd.ok,ry,⟨by rw[List.drop_zero,hn,hr];exact Dp⟩⟩
end Go.Proofs.YtaphmhiddngdoaaGreatDoor
