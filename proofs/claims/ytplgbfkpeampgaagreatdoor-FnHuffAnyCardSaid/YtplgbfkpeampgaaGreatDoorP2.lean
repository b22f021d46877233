/- The walk's own engine and plain laws, part 2. -/
import Derived.Test.YtplgbfkpeampgaaGreatDoorP1
set_option linter.unusedVariables false
set_option linter.unusedSimpArgs false
namespace Go.Proofs.YtplgbfkpeampgaaGreatDoor
def flatC:Nat→List Nat→List Nat
  |_,[]=>[]
  |s,n::cs=>List.replicate n s++flatC (s+1) cs
def stepF (size:Nat):Nat:=size/2+size/8+3
def place (size:Nat):List Nat→Nat→List Nat→List Nat
  |[],_,cells=>cells
  |s::t,p,cells=>place size t ((p+stepF size)%size) (cells.set p s)
abbrev Cell:=Nat × Nat × Nat
def cellF (log s k:Nat):Cell:=(s,log-(blen k-1),k*2^(log-(blen k-1))-2^log)
def buildD (log:Nat):List Nat→List Nat→List Cell
  |[],_=>[]
  |s::t,nx=>cellF log s (nx.getD s 0)::buildD log t (nx.set s (nx.getD s 0+1))
theorem place_length (size:Nat):∀(t:List Nat) (p:Nat) (cells:List Nat),(place size t p cells).length=cells.length
  |[],_,_=>rfl
  |s::t,p,cells=>by simp[place,place_length size t]
theorem buildD_length (log:Nat):∀(t nx:List Nat),(buildD log t nx).length=t.length
  |[],_=>rfl
  |s::t,nx=>by simp[buildD,buildD_length log t]
theorem flatC_sum:∀(cs:List Nat) (s:Nat),(flatC s cs).length=cs.sum
  |[],_=>rfl
  |n::cs,s=>by simp[flatC,flatC_sum cs]
theorem flatC_bound:∀(cs:List Nat) (s x:Nat),x ∈ flatC s cs→s≤x∧x<s+cs.length
  |[],_,x,h=>by simp[flatC] at h
  |n::cs,s,x,h=>by
    simp only[flatC,List.mem_append,List.mem_replicate] at h
    rcases h with ⟨_,rfl⟩|h
    · simp
    · have:=flatC_bound cs (s+1) x h
      simp only[List.length_cons];omega
theorem flatC_count:∀(cs:List Nat) (s x:Nat),(flatC s cs).count x=if s≤x then cs.getD (x-s) 0 else 0
  |[],s,x=>by simp[flatC]
  |n::cs,s,x=>by
    have hc:(List.replicate n s).count x=if s=x then n else 0:=by rw[List.count_replicate];by_cases e:s=x<;>simp[e]
    rw[flatC,List.count_append,hc,flatC_count cs (s+1) x]
    rcases Nat.lt_trichotomy s x with h|h|h
    · rw[if_neg (show¬s=x by omega),if_pos (show s+1≤x by omega),if_pos (show s≤x by omega),show x-s=(x-(s+1))+1 by omega,List.getD_cons_succ,Nat.zero_add]
    · subst h;rw[if_pos rfl,if_neg (show¬s+1≤s by omega),if_pos (Nat.le_refl _),Nat.sub_self];rfl
    · rw[if_neg (show¬s=x by omega),if_neg (show¬s+1≤x by omega),if_neg (show¬s≤x by omega)]
theorem place_get {size:Nat} (h0:0<size):∀(t:List Nat) (p:Nat) (cells:List Nat) (j:Nat),p<size→cells.length=size→j<t.length→(∀i i',i<t.length→i'<t.length→(p+i*stepF size)%size=(p+i'*stepF size)%size→i=i')→
      (place size t p cells).getD ((p+j*stepF size)%size) 0=t.getD j 0
  |[],p,cells,j,_,_,hj,_=>by simp at hj
  |s::t,p,cells,j,hp,hc,hj,hinj=>by
    have hp':(p+stepF size)%size<size:=Nat.mod_lt _ h0
    have shift:∀i,((p+stepF size)%size+i*stepF size)%size=(p+(i+1)*stepF size)%size:=fun i=>by
      rw[Nat.mod_add_mod,Nat.add_mul,Nat.one_mul];congr 1;omega
    have inj':∀i i',i<t.length→i'<t.length→((p+stepF size)%size+i*stepF size)%size=((p+stepF size)%size+i'*stepF size)%size→i=i':=fun i i' hi hi' he=>by
      rw[shift,shift] at he
      have:=hinj (i+1) (i'+1) Oz Oz he
      omega
    simp only[place]
    cases j with
    |zero=>
      simp only[Nat.zero_mul,Nat.add_zero,List.getD_cons_zero]
      rw[Nat.mod_eq_of_lt hp]
      -- p is not met again
      have key:∀(t':List Nat) (q:Nat) (cells':List Nat),q<size→(∀i,i<t'.length→(q+i*stepF size)%size≠p)→(place size t' q cells').getD p 0=cells'.getD p 0:=by
        intro t'
        induction t' with
        |nil=>intro q cells' _ _;rfl
        |cons s' t' ih=>
          intro q cells' hq hne
          simp only[place]
          rw[ih _ _ (Nat.mod_lt _ h0) fun i hi=>by
            rw[Nat.mod_add_mod]
            have:=hne (i+1) Oz
            rw[Nat.add_mul,Nat.one_mul,Nat.add_comm (i*stepF size), ←Nat.add_assoc] at this
            exact this]
          have h1:=hne 0 Oi
          rw[Nat.zero_mul,Nat.add_zero,Nat.mod_eq_of_lt hq] at h1
          simp only[List.getD_eq_getElem?_getD]
          rw[List.getElem?_set_ne h1]
      rw[key t _ _ hp' fun i hi he=>by
        rw[shift] at he
        have:=hinj (i+1) 0 Oz Oi (by rw[he,Nat.zero_mul,Nat.add_zero,Nat.mod_eq_of_lt hp])
        omega]
      simp[List.getD_eq_getElem?_getD,hc,hp]
    |succ j=>
      rw[←shift,List.getD_cons_succ]
      exact place_get h0 t _ _ j hp' (by simp[hc]) (by simpa using hj) inj'
theorem step_inj {size:Nat} (h:size=32∨size=64) {i i':Nat} (hi:i<size) (hi':i'<size) (he:(0+i*stepF size)%size=(0+i'*stepF size)%size):i=i':=by
  rcases h with rfl|rfl
  · have:stepF 32=23:=rfl
    rw[this] at he;omega
  · have:stepF 64=43:=rfl
    rw[this] at he;omega
def cellsF (log:Nat) (cs:List Nat):List Nat:=place (2^log) (flatC 0 cs) 0 (List.replicate (2^log) 0)
structure CountsB (log:Nat) (cs:List Nat):Prop where
  lg:log=5∨log=6
  sum:cs.sum=2^log
  len:cs.length≤256
  le:∀c ∈ cs,c<2^log
theorem CountsB.size {log:Nat} {cs:List Nat} (h:CountsB log cs):2^log=32∨2^log=64:=by
  rcases h.lg with h|h<;>subst h<;>simp
theorem cells_get {log:Nat} {cs cells:List Nat} (h:CountsB log cs) (hc:cells.length=2^log) (j:Nat) (hj:j<2^log):(place (2^log) (flatC 0 cs) 0 cells).getD (j*stepF (2^log)%2^log) 0=(flatC 0 cs).getD j 0:=by
  have hl:(flatC 0 cs).length=2^log:=by rw[flatC_sum,h.sum]
  have:=place_get (size:=2^log) (Nat.pow_pos Om) (flatC 0 cs) 0 cells j (Nat.pow_pos Om) hc Om (fun i i' hi hi' he=>step_inj h.size Om Om he)
  rwa [Nat.zero_add] at this
theorem cell_met {size:Nat} (h:size=32∨size=64) {p:Nat} (hp:p<size):∃j,j<size∧j*stepF size%size=p:=by
  rcases h with rfl|rfl
  · refine⟨p*7%32,Om,?_⟩
    have:stepF 32=23:=rfl
    rw[this];omega
  · refine⟨p*3%64,Om,?_⟩
    have:stepF 64=43:=rfl
    rw[this];omega
theorem cells_eq {log:Nat} {cs cells:List Nat} (h:CountsB log cs) (hc:cells.length=2^log):place (2^log) (flatC 0 cs) 0 cells=cellsF log cs:=by
  apply List.ext_getElem
  · rw[place_length,cellsF,place_length,hc];simp
  · intro p h1 h2
    have hp:p<2^log:=by rw[place_length,hc] at h1;exact h1
    obtain⟨j,hj,rfl⟩:=cell_met h.size hp
    have e1:=cells_get h hc j hj
    have e2:=cells_get h (cells:=List.replicate (2^log) 0) Oi j hj
    have e3:(place (2^log) (flatC 0 cs) 0 cells).getD (j*stepF (2^log)%2^log) 0=(cellsF log cs).getD (j*stepF (2^log)%2^log) 0:=e1.trans e2.symm
    simpa [List.getD_eq_getElem?_getD,h1,h2] using e3
theorem cellsF_length {log:Nat} {cs:List Nat}:(cellsF log cs).length=2^log:=by rw[cellsF,place_length];simp
theorem cellsF_lt {log:Nat} {cs:List Nat} (h:CountsB log cs) {p:Nat} (hp:p<2^log):(cellsF log cs).getD p 0<cs.length:=by
  obtain⟨j,hj,rfl⟩:=cell_met h.size hp
  rw[cellsF,cells_get h Oi j hj]
  have hl:(flatC 0 cs).length=2^log:=by rw[flatC_sum,h.sum]
  have hm:(flatC 0 cs).getD j 0 ∈ flatC 0 cs:=by simp[List.getD_eq_getElem?_getD,hl,hj]
  have:=flatC_bound cs 0 _ hm
  omega
theorem count_of_perm {size:Nat} (h:size=32∨size=64) {a b:List Nat} (ha:a.length=size) (hb:b.length=size) (he:∀j,j<size→a.getD (j*stepF size%size) 0=b.getD j 0) (x:Nat):a.count x=b.count x:=by
  have hb':b=(List.range size).map fun j=>b.getD j 0:=by
    apply List.ext_getElem (by simp[hb])
    intro i h1 h2
    simp[List.getD_eq_getElem?_getD,h1]
  have ha':a=(List.range size).map fun j=>a.getD j 0:=by
    apply List.ext_getElem (by simp[ha])
    intro i h1 h2
    simp[List.getD_eq_getElem?_getD,h1]
  have hp:((List.range size).map fun j=>j*stepF size%size).Perm (List.range size):=by
    rcases h with rfl|rfl
    · decide+kernel
    · decide+kernel
  have h2:(List.range size).map (fun j=>b.getD j 0)=((List.range size).map fun j=>j*stepF size%size).map fun q=>a.getD q 0:=by
    rw[List.map_map]
    refine List.map_congr_left fun j hj=>?_
    simp only[Function.comp]
    exact(he j (List.mem_range.1 hj)).symm
  rw[ha',hb',h2]
  exact((hp.map _).count_eq x).symm
theorem cellsF_count {log:Nat} {cs:List Nat} (h:CountsB log cs) (x:Nat):(cellsF log cs).count x=cs.getD x 0:=by
  have hl:(flatC 0 cs).length=2^log:=by rw[flatC_sum,h.sum]
  rw[count_of_perm h.size cellsF_length hl (fun j hj=>cells_get h Oi j hj) x,flatC_count,if_pos Om,Nat.sub_zero]
theorem buildD_get (log:Nat):∀(t nx:List Nat) (u:Nat),u<t.length→(∀s ∈ t,s<nx.length)→(buildD log t nx).getD u (0,0,0)=cellF log (t.getD u 0) (nx.getD (t.getD u 0) 0+(t.take u).count (t.getD u 0))
  |[],nx,u,h,_=>by simp at h
  |s::t,nx,0,h,hs=>by simp[buildD]
  |s::t,nx,u+1,h,hs=>by
    have hu:u<t.length:=by simpa using h
    simp only[buildD,List.getD_cons_succ,List.take_succ_cons]
    rw[buildD_get log t _ u hu (fun x hx=>by simp;exact hs x (List.mem_cons_of_mem _ hx))]
    rw[getD_set' (hs s List.mem_cons_self),List.count_cons]
    by_cases e:s=t.getD u 0
    · rw[if_pos e,if_pos (by simpa using e),e];congr 1;omega
    · rw[if_neg e,if_neg (by simpa using e),Nat.add_zero]
def tableF (log:Nat) (cs:List Nat):List Cell:=buildD log (cellsF log cs) cs
theorem tableF_length {log:Nat} {cs:List Nat}:(tableF log cs).length=2^log:=by rw[tableF,buildD_length,cellsF_length]
theorem tableF_get {log:Nat} {cs:List Nat} (h:CountsB log cs) {u:Nat} (hu:u<2^log):
    ∃s k,(tableF log cs).getD u (0,0,0)=cellF log s k∧s=(cellsF log cs).getD u 0∧s<cs.length∧k=cs.getD s 0+((cellsF log cs).take u).count s∧1≤k∧k<2*2^log∧k+1≤2*cs.getD s 0∧log-(blen k-1)≤log∧2^log≤k*2^(log-(blen k-1))∧k*2^(log-(blen k-1))-2^log+2^(log-(blen k-1))≤2^log:=by
  have hlt:=cellsF_lt h hu
  have hin:∀s ∈ cellsF log cs,s<cs.length:=fun s hs=>by
    obtain⟨i,hi,rfl⟩:=List.getElem_of_mem hs
    rw[cellsF_length] at hi
    have:=cellsF_lt h hi
    simpa [List.getD_eq_getElem?_getD,cellsF_length,hi] using this
  refine⟨_,_,buildD_get log _ cs u (by rw[cellsF_length];exact hu) hin,rfl,hlt,rfl,?_⟩
  have hc:((cellsF log cs).take u).count ((cellsF log cs).getD u 0)+1≤cs.getD ((cellsF log cs).getD u 0) 0:=by
    rw[←cellsF_count h]
    have hs:u<(cellsF log cs).length:=by rw[cellsF_length];exact hu
    have hg:(cellsF log cs).getD u 0=(cellsF log cs)[u]:=by simp[hs]
    have h1:((cellsF log cs).take (u+1)).count (cellsF log cs)[u]=((cellsF log cs).take u).count (cellsF log cs)[u]+1:=by rw[List.take_succ_eq_append_getElem hs,List.count_append,List.count_singleton_self]
    rw[hg, ←h1]
    exact(List.take_sublist _ _).count_le _
  generalize hs:(cellsF log cs).getD u 0=s at*
  generalize ((cellsF log cs).take u).count s=q at*
  have hhalf:=h.le (cs.getD s 0) (by simp[List.getD_eq_getElem?_getD,hlt])
  generalize cs.getD s 0=n at*
  have hk1:1≤n+q:=Om
  have hk2:n+q<2^(log+1):=by rw[Nat.pow_succ];omega
  have hk3:n+q+1≤2*n:=Om
  have hb1:=blen_pos (show 0<n+q by omega)
  have hb2:=blen_ge (show 0<n+q by omega)
  have hb3:=blen_lt (n+q)
  have hb4:=blen_le hk2
  generalize blen (n+q)=b at*
  generalize n+q=k at*
  have hl1:1≤log:=by rcases h.lg with h|h<;>omega
  have pos:∀m:Nat,0<2^m:=fun m=>Nat.pow_pos Om
  have e1:(2:Nat)^log=2^(b-1)*2^(log-(b-1)):=by rw[←Nat.pow_add];congr 1;omega
  have e2:2*(2:Nat)^log=2^b*2^(log-(b-1)):=by
    rw[←Nat.pow_add,show b+(log-(b-1))=log+1 by omega,Nat.pow_succ,Nat.mul_comm]
  have h3:2^log≤k*2^(log-(b-1)):=by rw[e1];exact Nat.mul_le_mul_right _ hb2
  have h4:(k+1)*2^(log-(b-1))≤2*2^log:=by rw[e2];exact Nat.mul_le_mul_right _ hb3
  rw[Nat.add_mul,Nat.one_mul] at h4
  refine⟨hk1,by rw[Nat.pow_succ] at hk2;omega,hk3,Om,h3,Om⟩
theorem bits_pos {log k n:Nat} (h1:1≤k) (h:k+1≤2*n) (hn:2*n<2^log):1≤log-(blen k-1):=by
  have:=blen_le (n:=k) (k:=log) Om
  have:=blen_pos (show 0<k by omega)
  omega
def fN (T:List Cell):List Nat→Nat
  |a::b::c::r=>(T.getD a (0,0,0)).2.1+fN T (b::c::r)
  |_=>0
def fR (T:List Cell):List Nat→Nat
  |a::b::c::r=>(c-(T.getD a (0,0,0)).2.2)*2^fN T (b::c::r)+fR T (b::c::r)
  |_=>0
structure FseT (log:Nat) (T:List Cell) (text at_:List Nat):Prop where
  len:at_.length=text.length
  two:2≤text.length
  lt:∀a ∈ at_,a<2^log
  sym:∀i,i<text.length→(T.getD (at_.getD i 0) (0,0,0)).1=text.getD i 0
  step:∀i,i+2<text.length→(T.getD (at_.getD i 0) (0,0,0)).2.2≤at_.getD (i+2) 0∧at_.getD (i+2) 0<(T.getD (at_.getD i 0) (0,0,0)).2.2+2^(T.getD (at_.getD i 0) (0,0,0)).2.1
theorem fN_cons {T:List Cell} {at_:List Nat} {i:Nat} (h:i+2<at_.length):fN T (at_.drop i)=(T.getD (at_.getD i 0) (0,0,0)).2.1+fN T (at_.drop (i+1))∧
    fR T (at_.drop i)=(at_.getD (i+2) 0-(T.getD (at_.getD i 0) (0,0,0)).2.2)*2^fN T (at_.drop (i+1))+fR T (at_.drop (i+1)):=by
  rw[List.drop_eq_getElem_cons (show i<at_.length by omega),List.drop_eq_getElem_cons (show i+1<at_.length by omega),List.drop_eq_getElem_cons (show i+1+1<at_.length by omega)]
  simp only[fN,fR]
  simp[List.getD_eq_getElem?_getD,show i<at_.length by omega,h]
theorem fN_end {T:List Cell} {at_:List Nat} {i:Nat} (h:at_.length≤i+2):fN T (at_.drop i)=0∧fR T (at_.drop i)=0:=by
  have:(at_.drop i).length≤2:=by simp;omega
  match hl:at_.drop i,this with
  |[],_=>exact⟨rfl,rfl⟩
  |[a],_=>exact⟨rfl,rfl⟩
  |[a,b],_=>exact⟨rfl,rfl⟩
  |a::b::c::r,h'=>simp at h'
theorem FseT.lt_ {log:Nat} {T:List Cell} {text at_:List Nat} (h:FseT log T text at_):∀d i,at_.length-i=d→fR T (at_.drop i)<2^fN T (at_.drop i)
  |0,i,hd=>by have:=fN_end (T:=T) (at_:=at_) (i:=i) Om;rw[this.1,this.2];decide
  |d+1,i,hd=>by
    rcases Nat.lt_or_ge (i+2) at_.length with hi|hi
    · obtain⟨e1,e2⟩:=fN_cons (T:=T) hi
      have ih:=FseT.lt_ h d (i+1) Om
      have hs:=h.step i (by rw[←h.len];exact hi)
      rw[e1,e2,Nat.pow_add]
      have:(at_.getD (i+2) 0-(T.getD (at_.getD i 0) (0,0,0)).2.2)*2^fN T (at_.drop (i+1))≤(2^(T.getD (at_.getD i 0) (0,0,0)).2.1-1)*2^fN T (at_.drop (i+1)):=Nat.mul_le_mul_right _ Om
      rw[Nat.sub_mul (2^_) 1,Nat.one_mul] at this
      have h2:2^fN T (at_.drop (i+1))≤2^(T.getD (at_.getD i 0) (0,0,0)).2.1*2^fN T (at_.drop (i+1)):=Nat.le_mul_of_pos_left _ (Nat.pow_pos Om)
      omega
    · have:=fN_end (T:=T) hi
      rw[this.1,this.2];decide
structure RdF (xs:List Nat) (k len:Nat) (T:List Cell) (at_:List Nat) (i:Nat) (s:BR):Prop where
  pos:PosF xs k len s (fN T (at_.drop i)) (fR T (at_.drop i))
theorem RdF.bits {xs:List Nat} {k len log i:Nat} {T:List Cell} {text at_:List Nat} {s:BR} (h:RdF xs k len T at_ i s) (hT:FseT log T text at_) (hb:Bytes xs) (hi:i+2<text.length) (hlog:(T.getD (at_.getD i 0) (0,0,0)).2.1≤16) (h1:1≤(T.getD (at_.getD i 0) (0,0,0)).2.1)
    (hr:s.rd+(T.getD (at_.getD i 0) (0,0,0)).2.1≤64∨s.off=0):
    s.rd+(T.getD (at_.getD i 0) (0,0,0)).2.1≤64∧(T.getD (at_.getD i 0) (0,0,0)).2.2+s.fbits (T.getD (at_.getD i 0) (0,0,0)).2.1=at_.getD (i+2) 0∧RdF xs k len T at_ (i+1) (s.fskip (T.getD (at_.getD i 0) (0,0,0)).2.1):=by
  have hi':i+2<at_.length:=by rw[hT.len];exact hi
  obtain⟨e1,e2⟩:=fN_cons (T:=T) hi'
  have hlt:=FseT.lt_ hT _ (i+1) rfl
  have hs:=hT.step i hi
  have hr':s.rd+(T.getD (at_.getD i 0) (0,0,0)).2.1≤64:=by
    rcases hr with h'|h'
    · exact h'
    · have:=h.pos.n;rw[e1,h'] at this;omega
  obtain⟨hv,_⟩:=h.pos.bits hb h1 hlog hr'
  have hk:=h.pos.skip hb hr'
  generalize hn:(T.getD (at_.getD i 0) (0,0,0)).2.1=m at*
  generalize (T.getD (at_.getD i 0) (0,0,0)).2.2=b at*
  have pos:0<2^fN T (at_.drop (i+1)):=Nat.pow_pos Om
  rw[e1,e2,Nat.add_sub_cancel_left] at hv
  rw[Nat.add_comm (_*_),Nat.add_mul_div_right _ _ pos,Nat.div_eq_of_lt hlt,Nat.zero_add] at hv
  rw[e1,e2,Nat.add_sub_cancel_left,Nat.add_comm (_*_),Nat.add_mul_mod_self_right,Nat.mod_eq_of_lt hlt] at hk
  exact⟨hr',Om,⟨hk⟩⟩
def lowB (v n:Nat):List Nat:=(List.range n).map fun i=>v/2^i%2
def highB (v n:Nat):List Nat:=(List.range n).map fun i=>v/2^(n-1-i)%2
theorem lowB_length (v n:Nat):(lowB v n).length=n:=by simp[lowB]
theorem highB_length (v n:Nat):(highB v n).length=n:=by simp[highB]
theorem lowB_succ (v n:Nat):lowB v (n+1)=lowB v n++[v/2^n%2]:=by simp[lowB,List.range_succ]
def highT (v n j:Nat):List Nat:=(List.range j).map fun i=>v/2^(n-1-i)%2
theorem highT_succ (v n j:Nat):highT v n (j+1)=highT v n j++[v/2^(n-1-j)%2]:=by simp[highT,List.range_succ]
theorem highT_all (v n:Nat):highT v n n=highB v n:=rfl
theorem lowB_bits (v n:Nat):Bits (lowB v n):=fun x hx=>by
  simp only[lowB,List.mem_map] at hx
  obtain⟨i,_,rfl⟩:=hx;omega
theorem highB_bits (v n:Nat):Bits (highB v n):=fun x hx=>by
  simp only[highB,List.mem_map] at hx
  obtain⟨i,_,rfl⟩:=hx;omega
theorem highB_succ (v n:Nat):highB v (n+1)=v/2^n%2::highB v n:=by
  simp only[highB,List.range_succ_eq_map,List.map_cons,List.map_map]
  have e:(List.range n).map ((fun i=>v/2^(n+1-1-i)%2) ∘ Nat.succ)=(List.range n).map fun i=>v/2^(n-1-i)%2:=List.map_congr_left fun i hi=>by
    simp only[Function.comp]
    rw[show n+1-1-Nat.succ i=n-1-i by omega]
  rw[e];simp
theorem bitsV_highB:∀(n v:Nat),bitsV (highB v n)=v%2^n
  |0,v=>by simp[highB,bitsV,Nat.mod_one]
  |n+1,v=>by
    rw[highB_succ,bitsV,highB_length,bitsV_highB n v,Nat.pow_succ,Nat.mod_mul,Nat.mul_comm]
    omega
def lowV:List Nat→Nat
  |[]=>0
  |b::bs=>b+2*lowV bs
theorem lowV_append:∀as bs:List Nat,lowV (as++bs)=lowV as+2^as.length*lowV bs
  |[],bs=>by simp[lowV]
  |a::as,bs=>by
    simp only[List.cons_append,lowV,lowV_append as bs,List.length_cons,Nat.pow_succ,Nat.mul_add]
    rw[Nat.mul_comm (2^as.length) 2,Nat.mul_assoc];omega
theorem lowV_lowB:∀(n v:Nat),lowV (lowB v n)=v%2^n
  |0,v=>by simp[lowB,lowV,Nat.mod_one]
  |n+1,v=>by
    rw[lowB_succ,lowV_append,lowV_lowB n v,lowB_length,Nat.pow_succ,Nat.mod_mul]
    simp[lowV]
theorem lowV_lt:∀{bs:List Nat},Bits bs→lowV bs<2^bs.length
  |[],_=>by simp[lowV]
  |b::bs,h=>by
    have h1:=h b List.mem_cons_self
    have h2:=lowV_lt (bs:=bs) fun x hx=>h x (List.mem_cons_of_mem _ hx)
    simp only[lowV,List.length_cons,Nat.pow_succ]
    omega
theorem eq_step {a b:List Nat} {i:Nat} (h:a.take i=b.take i) (ha:i<a.length) (hb:i<b.length) (he:a.getD i 0=b.getD i 0):a.take (i+1)=b.take (i+1):=by
  rw[List.take_succ_eq_append_getElem ha,List.take_succ_eq_append_getElem hb,h]
  have:a[i]=b[i]:=by simpa [ha,hb] using he
  rw[this]
theorem eq_done {a b:List Nat} {i:Nat} (h:a.take i=b.take i) (ha:a.length≤i) (hb:b.length≤i):a=b:=by
  rwa [List.take_of_length_le ha,List.take_of_length_le hb] at h
def bitN (xs:List Nat) (p:Nat):Nat:=xs.getD (p/8) 0/2^(p%8)%2
theorem bitN_out {xs:List Nat} {p:Nat} (h:xs.length≤p/8):bitN xs p=0:=by
  simp[bitN,List.getD_eq_getElem?_getD,List.getElem?_eq_none h]
theorem bitN_lt (xs:List Nat) (p:Nat):bitN xs p<2:=Nat.mod_lt _ Om
theorem bitN_tail {xs:List Nat} (hb:Bytes xs) {p n:Nat} (h:p/8<n):bitN xs p=tailV xs 0 n/2^p%2:=by
  unfold bitN
  rw[←tailV_byte hb h]
  have e:(2:Nat)^p=2^(8*(p/8))*2^(p%8):=by rw[←Nat.pow_add];congr 1;omega
  rw[e, ←Nat.div_div_eq_div_mul]
  generalize tailV xs 0 n/2^(8*(p/8))=q
  have h256:(256:Nat)=2^(p%8)*2^(8-p%8):=by rw[←Nat.pow_add,show p%8+(8-p%8)=8 by omega]
  rw[h256,Nat.mod_mul_right_div_self]
  have:2∣2^(8-p%8):=by rw[show 8-p%8=(7-p%8)+1 by omega,Nat.pow_succ];exact Nat.dvd_mul_left _ _
  exact Nat.mod_mod_of_dvd _ this
def bitsN (xs:List Nat) (p:Nat):Nat→Nat
  |0=>0
  |n+1=>bitsN xs p n+bitN xs (p+n)*2^n
def allN (len p:Nat):Nat→Bool
  |0=>true
  |n+1=>allN len p n && decide ((p+n)/8<len)
theorem bitsN_lt (xs:List Nat) (p:Nat):∀n,bitsN xs p n<2^n
  |0=>by simp[bitsN]
  |n+1=>by
    have h1:=bitsN_lt xs p n
    have h2:=bitN_lt xs (p+n)
    have h3:bitN xs (p+n)*2^n≤1*2^n:=Nat.mul_le_mul_right _ Om
    simp only[bitsN,Nat.pow_succ];omega
theorem bitsN_eq {xs:List Nat} (hb:Bytes xs) {p m:Nat}:∀n,(p+n+7)/8≤m→bitsN xs p n=tailV xs 0 m/2^p%2^n
  |0,_=>by simp[bitsN,Nat.mod_one]
  |n+1,h=>by
    simp only[bitsN]
    rw[bitsN_eq (m:=m) hb n Om,bitN_tail hb (n:=m) Om,Nat.pow_succ,Nat.mod_mul,Nat.pow_add,Nat.div_div_eq_div_mul,Nat.mul_comm (2^n)]
theorem allN_true {len p:Nat}:∀n,(p+n+7)/8≤len→allN len p n=true
  |0,_=>rfl
  |n+1,h=>by simp only[allN];rw[allN_true n Om,decide_eq_true Om];rfl
theorem Bits.at_ {xs:List Nat} (h:Bits xs) (i:Nat):xs.getD i 0<2:=by
  rw[List.getD_eq_getElem?_getD]
  rcases Nat.lt_or_ge i xs.length with hi|hi
  · simp only[hi,List.getElem?_eq_getElem,Option.getD_some];exact h _ (List.getElem_mem hi)
  · simp[List.getElem?_eq_none hi]
theorem shl8 (e:Nat) (h:e<8):2^e≤128:=Nat.le_trans (Nat.pow_le_pow_right Om (show e≤7 by omega)) Od
theorem getD_rep0 (n i:Nat):(List.replicate n 0).getD i 0=0:=by
  simp only[List.getD_eq_getElem?_getD,List.getElem?_replicate]
  split<;>rfl
theorem tailV_rep0 (n k:Nat):∀m,tailV (List.replicate n 0) k m=0
  |0=>rfl
  |m+1=>by simp only[tailV,tailV_rep0 n k m,getD_rep0,Nat.zero_mul]
theorem packed0_bytes {n x i:Nat} (hx:x<256):Bytes ((List.replicate n 0).set i x):=fun y hy=>by
  rcases List.mem_or_eq_of_mem_set hy with h|h
  · rw[List.mem_replicate] at h;omega
  · omega
theorem packed0 (n:Nat) (xs:List Nat):tailV ((List.replicate (n/8+1) 0).set (n/8) (2^(n%8))) 0 (n/8+1)=2^n+bitsV (xs.take 0)*2^(n-0):=by
  have:=tailV_set (xs:=List.replicate (n/8+1) 0) (v:=2^(n%8)) (j:=n/8) Oi (n/8+1) Om
  rw[getD_rep0,tailV_rep0,Nat.zero_mul,Nat.add_zero,Nat.zero_add, ←Nat.pow_add,show n%8+8*(n/8)=n by omega] at this
  rw[this];simp[bitsV]
theorem packed_step {xs ys:List Nat} {n i:Nat} (hb:Bits xs) (hn:xs.length=n) (hB:Bytes ys) (hL:ys.length=n/8+1) (hi:i<n) (hV:tailV ys 0 (n/8+1)=2^n+bitsV (xs.take i)*2^(n-i)):
    tailV (ys.set ((n-1-i)/8) (ys.getD ((n-1-i)/8) 0|||xs.getD i 0*2^((n-1-i)%8))) 0 (n/8+1)=2^n+bitsV (xs.take (i+1))*2^(n-(i+1))∧
      Bytes (ys.set ((n-1-i)/8) (ys.getD ((n-1-i)/8) 0|||xs.getD i 0*2^((n-1-i)%8)))∧ys.getD ((n-1-i)/8) 0|||xs.getD i 0*2^((n-1-i)%8)<256:=by
  have hx:=hb.at_ i
  have e1:n-1-i+1=n-i:=Om
  have hz:tailV ys 0 (n/8+1)%2^(n-1-i+1)=0:=by
    rw[hV,e1]
    have:(2:Nat)^n=2^i*2^(n-i):=by rw[←Nat.pow_add];congr 1;omega
    rw[this, ←Nat.add_mul,Nat.mul_mod_left]
  obtain⟨h1,h2,h3⟩:=put_bit (out:=ys) (at_:=n-1-i) hB hL Om hx hz
  refine⟨?_,h2,h3⟩
  rw[h1,hV]
  have hi':i<xs.length:=Om
  rw[List.take_succ_eq_append_getElem hi',bitsV_append]
  have hg:xs.getD i 0=xs[i]:=by simp[hi']
  simp only[bitsV,List.length_cons,List.length_nil,Nat.pow_zero,Nat.mul_one,Nat.add_zero,Nat.zero_add,Nat.pow_one]
  rw[hg,Nat.add_mul,Nat.mul_assoc,show n-(i+1)=n-1-i by omega]
  have:(2:Nat)*2^(n-1-i)=2^(n-i):=by rw[←e1,Nat.pow_succ,Nat.mul_comm]
  rw[this];omega
theorem or_first (n e:Nat) {m:Nat} (h:2^m≤128):(List.replicate n 0).getD e 0|||1*2^m%256=2^m:=by rw[getD_rep0,Nat.zero_or,Nat.one_mul,Nat.mod_eq_of_lt Om]
def nzc:List Nat→Nat
  |[]=>0
  |x::xs=>(if x=0 then 0 else 1)+nzc xs
def kraft:List Nat→Nat
  |[]=>0
  |x::xs=>(if x=0 then 0 else 2^(11-x))+kraft xs
theorem take_getD {xs:List Nat} {i:Nat} (h:i<xs.length):xs.take (i+1)=xs.take i++[xs.getD i 0]:=by
  rw[List.take_succ_eq_append_getElem h];simp[h]
theorem nzc_append:∀xs ys:List Nat,nzc (xs++ys)=nzc xs+nzc ys
  |[],ys=>by simp[nzc]
  |x::xs,ys=>by simp only[List.cons_append,nzc,nzc_append xs ys];omega
theorem kraft_append:∀xs ys:List Nat,kraft (xs++ys)=kraft xs+kraft ys
  |[],ys=>by simp[kraft]
  |x::xs,ys=>by simp only[List.cons_append,kraft,kraft_append xs ys];omega
theorem sumT {xs:List Nat} {i:Nat} (h:i<xs.length):(xs.take (i+1)).sum=(xs.take i).sum+xs.getD i 0:=by rw[take_getD h];simp
theorem nzcT0 {xs:List Nat} {i:Nat} (h:i<xs.length) (h0:xs.getD i 0=0):nzc (xs.take (i+1))=nzc (xs.take i):=by rw[take_getD h,nzc_append];simp only[nzc];first|(rw[if_pos h0];done)|(rw[if_pos h0];rfl)|(rw[if_neg h0];done)|(rw[if_neg h0];rfl)
theorem nzcT1 {xs:List Nat} {i:Nat} (h:i<xs.length) (h0:xs.getD i 0≠0):nzc (xs.take (i+1))=nzc (xs.take i)+1:=by rw[take_getD h,nzc_append];simp only[nzc];first|(rw[if_pos h0];done)|(rw[if_pos h0];rfl)|(rw[if_neg h0];done)|(rw[if_neg h0];rfl)
theorem kraftT0 {xs:List Nat} {i:Nat} (h:i<xs.length) (h0:xs.getD i 0=0):kraft (xs.take (i+1))=kraft (xs.take i):=by rw[take_getD h,kraft_append];simp only[kraft];first|(rw[if_pos h0];done)|(rw[if_pos h0];rfl)|(rw[if_neg h0];done)|(rw[if_neg h0];rfl)
theorem kraftT1 {xs:List Nat} {i:Nat} (h:i<xs.length) (h0:xs.getD i 0≠0):kraft (xs.take (i+1))=kraft (xs.take i)+2^(11-xs.getD i 0):=by rw[take_getD h,kraft_append];simp only[kraft];first|(rw[if_pos h0];done)|(rw[if_pos h0];rfl)|(rw[if_neg h0];done)|(rw[if_neg h0];rfl)
def AllLe (xs:List Nat) (b:Nat):Prop:=∀x ∈ xs,x≤b
theorem AllLe.at_ {xs:List Nat} {b:Nat} (h:AllLe xs b) (i:Nat):xs.getD i 0≤b:=by
  rw[List.getD_eq_getElem?_getD]
  rcases Nat.lt_or_ge i xs.length with hi|hi
  · simp only[hi,List.getElem?_eq_getElem,Option.getD_some];exact h _ (List.getElem_mem hi)
  · simp[List.getElem?_eq_none hi]
theorem AllLe.step {xs:List Nat} {b i:Nat} (h:AllLe (xs.take i) b) (hi:i<xs.length) (hx:xs.getD i 0≤b):AllLe (xs.take (i+1)) b:=fun y hy=>by
  rw[take_getD hi] at hy
  rcases List.mem_append.1 hy with h'|h'
  · exact h y h'
  · rw[List.mem_singleton] at h';omega
def WholeL (xs:List Nat):Prop:=xs.length≤256∧AllLe xs 11∧kraft xs=2048∧1<nzc xs
instance (xs:List Nat):Decidable (WholeL xs):=by unfold WholeL AllLe;exact inferInstance
theorem WholeL.some' {xs:List Nat} (h:WholeL xs):∃j,j<xs.length∧xs.getD j 0≠0:=by
  refine Classical.byContradiction fun hn=>?_
  have:∀i,i≤xs.length→nzc (xs.take i)=0:=by
    intro i
    induction i with
    |zero=>intro _;simp[nzc]
    |succ i ih=>
      intro hi
      have h0:xs.getD i 0=0:=Classical.byContradiction fun h'=>hn ⟨i,hi,h'⟩
      rw[nzcT0 hi h0];exact ih Om
  have h1:=this xs.length (Nat.le_refl _)
  rw[List.take_length] at h1
  have:=h.2.2.2;omega
theorem mem_getD {xs:List Nat} {i:Nat} (h:i<xs.length):xs.getD i 0 ∈ xs:=by simp[List.getD_eq_getElem?_getD,h]
theorem all_snoc {α:Type} {Φ:α→Prop} {P:List α} {y:α} (h:∀x ∈ P,Φ x) (hy:Φ y):∀x ∈ P++[y],Φ x:=fun x hx=>by
  rcases List.mem_append.1 hx with h'|h'
  · exact h x h'
  · rw[List.mem_singleton] at h';subst h';exact hy
theorem zero_step {xs:List Nat} {m i:Nat} (h:0<m∨∀j,j<i→xs.getD j 0=0) (h0:xs.getD i 0=0):0<m∨∀j,j<i+1→xs.getD j 0=0:=h.imp id fun h j hj=>by
  rcases Nat.lt_or_ge j i with h1|h1
  · exact h j h1
  · have e:j=i:=Om
    subst e;exact h0
theorem some_pos {xs:List Nat} {m n i:Nat} (h:0<m∨∀j,j<i→xs.getD j 0=0) (hi:n≤i) (hw:∃j,j<n∧xs.getD j 0≠0):0<m:=by
  rcases h with h|h
  · exact h
  · obtain⟨j,hj1,hj2⟩:=hw;exact absurd (h j Om) hj2
def nx (ls:List Nat):Nat→Nat
  |0=>0
  |d+1=>(nx ls d+ls.count (11-d))/2
def nxt (ls:List Nat) (m:Nat):Nat:=nx ls (11-m)
theorem nxt_pred (ls:List Nat) {m:Nat} (h1:1≤m) (h:m≤11):nxt ls (m-1)=(nxt ls m+ls.count m)/2:=by
  unfold nxt
  rw[show 11-(m-1)=(11-m)+1 by omega]
  simp only[nx]
  rw[show 11-(11-m)=m by omega]
theorem nx_le {ls:List Nat} (h:ls.length≤256):∀d,nx ls d≤256
  |0=>by simp[nx]
  |d+1=>by
    have:=nx_le h d
    have h2:=List.count_le_length (a:=11-d) (l:=ls)
    simp only[nx];omega
theorem nxt_le {ls:List Nat} (h:ls.length≤256) (m:Nat):nxt ls m≤256:=nx_le h _
def numC (ls:List Nat) (s:Nat):Nat:=nxt ls (ls.getD s 0)+(ls.take s).count (ls.getD s 0)
def EvenAll (ls:List Nat):Prop:=∀m,1≤m→m≤11→(nxt ls m+ls.count m)%2=0
structure CodeR (ls:List Nat) (c:Nat × Nat × Nat):Prop where
  lt:c.1<ls.length
  len:c.2.2=ls.getD c.1 0∧1≤c.2.2∧c.2.2≤11
  num:c.2.1=numC ls c.1∧c.2.1≤512
structure CodeOK (ls:List Nat) (s:Nat) (xs:List Nat):Prop where
  even:EvenAll ls
  lt:s<ls.length
  len:1≤ls.getD s 0∧ls.getD s 0≤11
  bits:xs=highB (numC ls s) (ls.getD s 0)
theorem countT0 {xs:List Nat} {i n:Nat} (h:i<xs.length) (h0:xs.getD i 0≠n):(xs.take (i+1)).count n=(xs.take i).count n:=by
  rw[take_getD h,List.count_append,List.count_cons_of_ne h0];simp
theorem countT1 {xs:List Nat} {i n:Nat} (h:i<xs.length) (h0:xs.getD i 0=n):(xs.take (i+1)).count n=(xs.take i).count n+1:=by
  rw[take_getD h,List.count_append,h0,List.count_singleton_self]
theorem EvenStep {ls:List Nat} {n:Nat} (h:∀m,n<m→m≤11→(nxt ls m+ls.count m)%2=0) (hn:(nxt ls n+ls.count n)%2=0) (h1:1≤n):∀m,n-1<m→m≤11→(nxt ls m+ls.count m)%2=0:=fun m hm hm2=>by
  rcases Nat.lt_or_ge n m with h'|h'
  · exact h m h' hm2
  · have e:m=n:=Om
    subst e;exact hn
theorem mem_getD3 {xs:List (Nat × Nat × Nat)} {i:Nat} (h:i<xs.length):xs.getD i (0,0,0) ∈ xs:=by simp[List.getD_eq_getElem?_getD,h]
abbrev Sli:=Option Addr × Nat × Nat
abbrev sli0:Sli:=(none,0,0)
def slcs (T:List Sli):List Value:=T.map fun t=>.slice t.1 t.2.1 t.2.2
@[simp] theorem slcs_length (T:List Sli):(slcs T).length=T.length:=by simp[slcs]
theorem slcs_get {T:List Sli} {j:Nat} (h:j<T.length):(slcs T)[j]? =some (.slice (T.getD j sli0).1 (T.getD j sli0).2.1 (T.getD j sli0).2.2):=by simp[slcs,h]
theorem slcs_set (T:List Sli) (j:Nat) (q:Option Addr) (n c:Nat):(slcs T).set j (.slice q n c)=slcs (T.set j (q,n,c)):=by simp[slcs,List.map_set]
theorem slcs_rep (n:Nat):List.replicate n (.slice none 0 0)=slcs (List.replicate n sli0):=by simp[slcs]
structure Cache (ls:List Nat) (T:List Sli) (D:List Seg):Prop where
  len:T.length=256
  ok:∀c,c<256→(T.getD c sli0).1=none∨∃sg ∈ D,∃bits,CodeOK ls c bits∧Rd (T.getD c sli0).1 (T.getD c sli0).2.1 1 (nats .i64 bits) sg 0
theorem Cache.init {ls:List Nat}:Cache ls (List.replicate 256 sli0) []:=⟨List.length_replicate,fun c hc=>.inl (by rw[List.getD_eq_getElem?_getD,List.getElem?_replicate];split<;>rfl)⟩
theorem Cache.put {ls:List Nat} {T:List Sli} {D:List Seg} {c b o n cap:Nat} {q:Option Addr} {cs:List Value} {bits:List Nat} (h:Cache ls T D) (hg:GS q b o cs 1 cap) (hn:n≤cap) (hp:cs.take n=nats .i64 bits) (hc:c<256) (hb:q=none∨CodeOK ls c bits):
    Cache ls (T.set c (q,n,cap)) (⟨b,o,cs,none⟩::D):=by
  refine⟨by simp[h.len],fun e he=>?_⟩
  by_cases hec:c=e
  · subst hec
    have hl:c<T.length:=by rw[h.len];exact hc
    have e1:(T.set c (q,n,cap)).getD c sli0=(q,n,cap):=by simp[List.getD_eq_getElem?_getD,hl]
    rw[e1]
    rcases hb with hb|hb
    · exact .inl hb
    · exact .inr ⟨_,List.mem_cons_self,bits,hb,Rd.ofGN hg hn hp⟩
  · have e1:(T.set c (q,n,cap)).getD e sli0=T.getD e sli0:=by simp[List.getD_eq_getElem?_getD,List.getElem?_set_ne hec]
    rw[e1]
    exact(h.ok e he).imp id fun ⟨sg,h1,h2⟩=>⟨sg,List.mem_cons_of_mem _ h1,h2⟩
theorem Src.ofRdM {l r:List Seg} {q:Option Addr} {n sz:Nat} {row:List Value} {s:Seg} {j:Nat} (hm:s ∈ l++r) (h:Rd q n sz row s j):Src l r q row:=by
  rcases Nat.eq_zero_or_pos n with h0|h0
  · left
    have:=h.len
    rw[h0,Nat.zero_mul] at this
    exact List.eq_nil_of_length_eq_zero this
  · exact .inr ⟨s,hm,j,h.ad h0,h.cs⟩
@[simp] theorem ints_length' (k:IntKind) (xs:List Int):(ints k xs).length=xs.length:=by simp[ints]
theorem nats_ints0 (k:IntKind) (n:Nat):nats k (List.replicate n 0)=ints k (List.replicate n 0):=by simp[nats,ints]
def AppRB (Φ:List (Nat × Nat × Nat)→Prop) (v:Value) (l':List Seg):Prop:=∃ok q b o cs cap xs n,v=.tuple #[.slice q n cap,.bool ok]∧GS q b o cs 3 cap∧n≤cap∧cs.take (n*3)=rows f3 xs∧xs.length=n∧(ok=true→Φ xs)∧l'=[⟨b,o,cs,none⟩]
theorem AppRB.no {Φ:List (Nat × Nat × Nat)→Prop}:AppRB Φ (.tuple #[.slice none 0 0,.bool false]) [⟨0,0,[],none⟩]:=⟨false,none,0,0,[],0,[],0,rfl,⟨rfl,.inr ⟨rfl,rfl⟩⟩,Nat.le_refl _,rfl,rfl,(fun h=>by cases h),rfl⟩
theorem AppRB.whole {Φ:List (Nat × Nat × Nat)→Prop} {P:List (Nat × Nat × Nat)} {m b:Nat} (hl:P.length=m) (h:Φ P):AppRB Φ (.tuple #[.slice (some ⟨b,0,none⟩) m m,.bool true]) [⟨b,0,rows f3 P,none⟩]:=
  ⟨true,_,b,0,_,m,P,m,rfl,⟨by rw[rows_length f3_len,hl],.inl rfl⟩,Nat.le_refl _,List.take_of_length_le (by rw[rows_length f3_len,hl];exact Nat.le_refl _),hl,fun _=>h,rfl⟩
theorem rows_rep0 (n:Nat):(List.replicate n ([.int .i64 ((0:Nat):Int),.int .i64 ((0:Nat):Int),.int .i64 ((0:Nat):Int)]:List Value)).flatten=rows f3 (List.replicate n (0,0,0)):=by
  induction n with
  |zero=>rfl
  |succ n ih=>simp only[List.replicate_succ,List.flatten_cons,rows,List.flatMap_cons] at ih ⊢;rw[ih];rfl
section
variable {P:Program} {K:Kx} {Q:Exit→Act→World→Prop} {ρ:Fram} {l l' r:List Seg} {cd:Code} {e:Exit}
theorem GQ.perm (hp:l.Perm l') (h:GQ K Q e ρ l' r):GQ K Q e ρ l r:=fun a w ha=>h a w (ha.perm hp)
end
theorem cyc_dec {k j n:Nat} (hk:k<n) (hj:j<n) (hne:k≠j):(j+n-(k+1)%n)%n<(j+n-k)%n:=by
  rcases Nat.lt_or_ge (k+1) n with h|h
  · rw[Nat.mod_eq_of_lt h]
    rcases Nat.lt_or_ge k j with h1|h1
    · rw[show j+n-(k+1)=(j-(k+1))+n by omega,show j+n-k=(j-k)+n by omega,Nat.add_mod_right,Nat.add_mod_right,Nat.mod_eq_of_lt Om,Nat.mod_eq_of_lt Om];omega
    · rw[Nat.mod_eq_of_lt (show j+n-(k+1)<n by omega),Nat.mod_eq_of_lt (show j+n-k<n by omega)];omega
  · have e:k+1=n:=Om
    rw[e,Nat.mod_self,Nat.sub_zero,Nat.add_mod_right,Nat.mod_eq_of_lt hj,Nat.mod_eq_of_lt (show j+n-k<n by omega)];omega
structure Parted (xs:List Nat):Prop where
  one:∀x ∈ xs,1≤x∧x≤11
  sum:kraft xs=2048
theorem Parted.two:Parted [1,1]:=⟨Oi,Od⟩
theorem kraft_11:∀xs:List Nat,(∀x ∈ xs,x=11)→kraft xs=xs.length
  |[],_=>rfl
  |x::xs,h=>by
    have h1:=h x List.mem_cons_self
    subst h1
    simp only[kraft,kraft_11 xs (fun y hy=>h y (List.mem_cons_of_mem _ hy)),List.length_cons]
    simp;omega
theorem Parted.gap {xs:List Nat} (h:Parted xs) (hl:xs.length<2048):∃j,j<xs.length∧xs.getD j 0≠11:=by
  refine Classical.byContradiction fun hn=>?_
  have:kraft xs=xs.length:=kraft_11 xs fun x hx=>by
    obtain⟨i,hi,rfl⟩:=List.getElem_of_mem hx
    refine Classical.byContradiction fun h'=>hn ⟨i,hi,?_⟩
    simpa [List.getD_eq_getElem?_getD,hi] using h'
  have:=h.sum;omega
theorem kraft_set:∀(xs:List Nat) (k v:Nat),k<xs.length→1≤xs.getD k 0→1≤v→kraft (xs.set k v)+2^(11-xs.getD k 0)=kraft xs+2^(11-v)
  |[],k,v,h,_,_=>by simp at h
  |x::xs,0,v,h,h1,h2=>by
    simp only[List.getD_cons_zero] at h1 ⊢
    simp only[List.set_cons_zero,kraft]
    rw[if_neg Om,if_neg Om];omega
  |x::xs,k+1,v,h,h1,h2=>by
    simp only[List.getD_cons_succ] at h1 ⊢
    simp only[List.set_cons_succ,kraft]
    have:=kraft_set xs k v (by simpa using h) h1 h2
    omega
theorem Parted.at_ {xs:List Nat} (h:Parted xs) {k:Nat} (hk:k<xs.length):1≤xs.getD k 0∧xs.getD k 0≤11:=h.one _ (mem_getD hk)
theorem Parted.part {xs:List Nat} (h:Parted xs) {k:Nat} (hk:k<xs.length) (hne:xs.getD k 0≠11):Parted (xs.set k (xs.getD k 0+1)++[xs.getD k 0+1]):=by
  have h1:=h.at_ hk
  refine⟨fun x hx=>?_,?_⟩
  · rcases List.mem_append.1 hx with h'|h'
    · rcases List.mem_or_eq_of_mem_set h' with h''|h''
      · exact h.one x h''
      · omega
    · rw[List.mem_singleton] at h';omega
  · have h2:=kraft_set xs k (xs.getD k 0+1) hk h1.1 Om
    rw[kraft_append]
    simp only[kraft]
    rw[if_neg Om]
    have h3:2^(11-xs.getD k 0)=2*2^(11-(xs.getD k 0+1)):=by
      rw[show 11-xs.getD k 0=(11-(xs.getD k 0+1))+1 by omega,Nat.pow_succ,Nat.mul_comm]
    have:=h.sum
    omega
def cdL (ls:List Nat) (c:Nat):Nat × Nat:=(ls.getD c 0,numC ls c)
def codeBits (ls:List Nat):List Nat→List Nat
  |[]=>[]
  |c::t=>highB (numC ls c) (ls.getD c 0)++codeBits ls t
theorem codeBits_snoc (ls:List Nat):∀(t:List Nat) (c:Nat),codeBits ls (t++[c])=codeBits ls t++highB (numC ls c) (ls.getD c 0)
  |[],c=>by simp[codeBits]
  |x::t,c=>by simp only[List.cons_append,codeBits,codeBits_snoc ls t c,List.append_assoc]
theorem codeBits_length (ls:List Nat):∀t:List Nat,(codeBits ls t).length=tN (cdL ls) t
  |[]=>rfl
  |c::t=>by simp only[codeBits,List.length_append,highB_length,codeBits_length ls t,tN,cdL]
theorem codeBits_bits (ls:List Nat):∀t:List Nat,Bits (codeBits ls t)
  |[]=>by simp[Bits,codeBits]
  |c::t=>(highB_bits _ _).append (codeBits_bits ls t)
theorem bitsV_codeBits (ls:List Nat):∀t:List Nat,(∀c ∈ t,numC ls c<2^ls.getD c 0)→bitsV (codeBits ls t)=tR (cdL ls) t
  |[],_=>rfl
  |c::t,h=>by
    simp only[codeBits]
    rw[bitsV_append,bitsV_highB,bitsV_codeBits ls t (fun x hx=>h x (List.mem_cons_of_mem _ hx)),codeBits_length,Nat.mod_eq_of_lt (h c List.mem_cons_self)]
    rfl
def partT (xs:List Nat) (q j:Nat):List Nat:=(xs.drop (j*q)).take (min ((j+1)*q) xs.length-j*q)
structure PartOK (ls t ys:List Nat):Prop where
  even:EvenAll ls
  all:∀c ∈ t,c<ls.length∧1≤ls.getD c 0∧ls.getD c 0≤11
  bytes:Bytes ys
  len:ys.length=tN (cdL ls) t/8+1∧ys.length≤65535
  num:tailV ys 0 (tN (cdL ls) t/8+1)=2^tN (cdL ls) t+bitsV (codeBits ls t)
def heads (Y:List (List Nat)):List Nat:=Y.flatMap fun y=>[y.length%256,y.length/2^8]
theorem heads_step {Y:List (List Nat)} {y:List Nat} {n:Nat} (h:Y.length<3) (hn:y.length=n):heads ((Y++[y]).take 3)=heads (Y.take 3)++[n%256,n/2^8]:=by
  subst hn
  rw[List.take_of_length_le (show(Y++[y]).length≤3 by simp;omega),List.take_of_length_le (show Y.length≤3 by omega)]
  simp[heads]
theorem heads_last {Y:List (List Nat)} {y:List Nat} (h:Y.length=3):heads ((Y++[y]).take 3)=heads (Y.take 3):=by
  rw[List.take_append_of_le_length Om]
theorem parts_step {Φ:Nat→List Nat→Prop} {Y:List (List Nat)} {y:List Nat} {i:Nat} (h:∀j,j<i→Φ j (Y.getD j [])) (hi:Y.length=i) (hy:Φ i y):∀j,j<i+1→Φ j ((Y++[y]).getD j []):=fun j hj=>by
  rcases Nat.lt_or_ge j i with h1|h1
  · have:=h j h1
    have e:(Y++[y]).getD j []=Y.getD j []:=by simp only[List.getD_eq_getElem?_getD];rw[List.getElem?_append_left Om]
    rw[e];exact this
  · have e:j=i:=Om
    subst e
    have:(Y++[y]).getD j []=y:=by simp only[List.getD_eq_getElem?_getD];rw[List.getElem?_append_right Om,hi,Nat.sub_self];rfl
    rw[this];exact hy
def encV (most v:Nat):List Nat:=if v<2^blen most-1-most then lowB v (blen most-1) else if v<2^(blen most-1) then lowB v (blen most) else lowB (v+(2^blen most-1-most)) (blen most)
def zerosB:Nat→List Nat
  |0=>lowB 0 2
  |1=>lowB 1 2
  |2=>lowB 2 2
  |m+3=>lowB 3 2++zerosB m
theorem zerosB_step {m:Nat} (h:3≤m):zerosB m=lowB 3 2++zerosB (m-3):=by
  obtain⟨k,rfl⟩:∃k,m=k+3:=⟨m-3,Om⟩
  rfl
theorem zerosB_end {m:Nat} (h:m<3):zerosB m=lowB m 2:=by
  match m,h with
  |0,_=>rfl
  |1,_=>rfl
  |2,_=>rfl
inductive Descr:Nat→List Nat→List Nat→Prop
  |done (cs:List Nat):Descr 0 cs []
  |pos (left n:Nat) (cs bits:List Nat):0<n→n≤left→Descr (left-n) cs bits→Descr left (n::cs) (encV (left+1) (n+1)++bits)
  |zer (left z c:Nat) (cs bits:List Nat):0<left→0<c→Descr left (c::cs) bits→Descr left (0::(List.replicate z 0++c::cs)) (encV (left+1) 1++(zerosB z++bits))
theorem drop_getD {xs:List Nat} {i:Nat} (h:i<xs.length):xs.drop i=xs.getD i 0::xs.drop (i+1):=by rw[List.drop_eq_getElem_cons h];simp[h]
theorem drop_zeros {xs:List Nat} {i:Nat}:∀z,(∀j,j<z→xs.getD (i+j) 0=0)→i+z≤xs.length→xs.drop i=List.replicate z 0++xs.drop (i+z)
  |0,_,_=>by simp
  |z+1,h,hl=>by
    rw[drop_zeros z (fun j hj=>h j Om) Om,drop_getD (i:=i+z) Om,h z Om,List.replicate_succ',List.append_assoc]
    rfl
theorem Descr.stepP {left i n:Nat} {xs E:List Nat} (h:∀rest,Descr left (xs.drop i) rest→Descr 64 xs (E++rest)) (hi:i<xs.length) (hn:xs.getD i 0=n) (h0:0<n) (hl:n≤left):∀rest,Descr (left-n) (xs.drop (i+1)) rest→Descr 64 xs ((E++encV (left+1) (n+1))++rest):=fun rest hr=>by
  rw[List.append_assoc]
  refine h _ ?_
  rw[drop_getD hi,hn]
  exact Descr.pos left n _ rest h0 hl hr
theorem Descr.stepZ {left i z:Nat} {xs E:List Nat} (h:∀rest,Descr left (xs.drop i) rest→Descr 64 xs (E++rest)) (hi:i+1+z<xs.length) (hn:xs.getD i 0=0) (h0:0<left) (hz:∀j,j<z→xs.getD (i+1+j) 0=0) (hc:xs.getD (i+1+z) 0≠0):∀rest,Descr left (xs.drop (i+1+z)) rest→Descr 64 xs ((E++(encV (left+1) 1++zerosB z))++rest):=fun rest hr=>by
  rw[List.append_assoc,List.append_assoc]
  refine h _ ?_
  rw[drop_getD (show i<xs.length by omega),hn,drop_zeros z hz Om,drop_getD hi]
  rw[drop_getD hi] at hr
  exact Descr.zer left z _ _ rest h0 Om hr
theorem sum_take_le:∀(xs:List Nat) (i:Nat),(xs.take i).sum≤xs.sum
  |[],i=>by simp
  |x::xs,0=>by simp
  |x::xs,i+1=>by
    have:=sum_take_le xs i
    simp only[List.take_succ_cons,List.sum_cons];omega
theorem sum_more {xs:List Nat}:∀(d i:Nat),xs.length-i=d→(xs.take i).sum<xs.sum→∃c,i≤c∧c<xs.length∧xs.getD c 0≠0
  |0,i,hd,h=>by rw[List.take_of_length_le Om] at h;omega
  |d+1,i,hd,h=>by
    by_cases h0:xs.getD i 0=0
    · have h1:=sumT (xs:=xs) (i:=i) Om
      obtain⟨c,h2,h3,h4⟩:=sum_more (xs:=xs) d (i+1) Om Om
      exact⟨c,Om,h3,h4⟩
    · exact⟨i,Nat.le_refl _,Om,h0⟩
theorem zrun_le {xs:List Nat} {i z c:Nat} (hz:∀j,j<z→xs.getD (i+j) 0=0) (hc:i≤c) (h:xs.getD c 0≠0):i+z≤c:=by
  refine Classical.byContradiction fun hn=>h ?_
  have:=hz (c-i) Om
  rwa [show i+(c-i)=c by omega] at this
theorem zrun_step {xs:List Nat} {i z:Nat} (hz:∀j,j<z→xs.getD (i+j) 0=0) (h:xs.getD (i+z) 0=0):∀j,j<z+1→xs.getD (i+j) 0=0:=fun j hj=>by
  rcases Nat.lt_or_ge j z with h1|h1
  · exact hz j h1
  · have e:j=z:=Om
    subst e;exact h
theorem sum_zrun {xs:List Nat} {i:Nat}:∀z,(∀j,j<z→xs.getD (i+j) 0=0)→i+z≤xs.length→(xs.take (i+z)).sum=(xs.take i).sum
  |0,_,_=>rfl
  |z+1,h,hl=>by
    rw[←Nat.add_assoc,sumT Om,h z Om,sum_zrun z (fun j hj=>h j Om) Om];rfl
theorem tailV_high {xs:List Nat} {p n:Nat} (hb:Bytes xs) (hp:p/8<n) (h:tailV xs 0 n<2^p):xs.getD (p/8) 0<2^(p%8):=by
  rw[←tailV_byte hb hp]
  have e:(2:Nat)^p=2^(p%8)*2^(8*(p/8)):=by rw[←Nat.pow_add];congr 1;omega
  have h1:tailV xs 0 n/2^(8*(p/8))<2^(p%8):=by rw[Nat.div_lt_iff_lt_mul (Nat.pow_pos Om), ←e];exact h
  exact Nat.lt_of_le_of_lt (Nat.mod_le _ _) h1
theorem lowV_take {xs:List Nat} {i:Nat} (h:i<xs.length):lowV (xs.take (i+1))=lowV (xs.take i)+2^i*xs.getD i 0:=by
  rw[take_getD h,lowV_append,List.length_take,Nat.min_eq_left Om];simp[lowV]
theorem Bits.take {xs:List Nat} (h:Bits xs) (i:Nat):Bits (xs.take i):=fun x hx=>h x (List.mem_of_mem_take hx)
theorem fw_step {xs ys:List Nat} {i L:Nat} (hb:Bits xs) (hB:Bytes ys) (hL:ys.length=L) (hi:i<xs.length) (hiL:i/8<L) (hV:tailV ys 0 L=lowV (xs.take i)):
    tailV (ys.set (i/8) (ys.getD (i/8) 0|||xs.getD i 0*2^(i%8))) 0 L=lowV (xs.take (i+1))∧Bytes (ys.set (i/8) (ys.getD (i/8) 0|||xs.getD i 0*2^(i%8)))∧ys.getD (i/8) 0|||xs.getD i 0*2^(i%8)<256:=by
  have hx:=hb.at_ i
  have hlt:tailV ys 0 L<2^i:=by
    rw[hV]
    have:=lowV_lt (hb.take i)
    rwa [List.length_take,Nat.min_eq_left Om] at this
  have hy:=tailV_high hB hiL hlt
  have ho:ys.getD (i/8) 0|||xs.getD i 0*2^(i%8)=xs.getD i 0*2^(i%8)+ys.getD (i/8) 0:=or_shift' hy
  have h8:xs.getD i 0*2^(i%8)≤1*2^(i%8):=Nat.mul_le_mul_right _ Om
  have h7:=shl8 (i%8) Om
  have h3:ys.getD (i/8) 0|||xs.getD i 0*2^(i%8)<256:=by rw[ho];omega
  refine⟨?_,?_,h3⟩
  · have:=tailV_set (xs:=ys) (v:=ys.getD (i/8) 0|||xs.getD i 0*2^(i%8)) (j:=i/8) Om L hiL
    rw[ho,Nat.add_mul,Nat.mul_assoc, ←Nat.pow_add,show i%8+8*(i/8)=i by omega] at this
    rw[ho,lowV_take hi, ←hV,Nat.mul_comm (2^i)];omega
  · intro y hy'
    rcases List.mem_or_eq_of_mem_set hy' with h|h
    · exact hB y h
    · subst h;exact h3
theorem Bytes.rep0 (n:Nat):Bytes (List.replicate n 0):=fun y hy=>by rw[List.mem_replicate] at hy;omega
def placeZ (size:Nat):List Nat→Nat→List Int→List Int
  |[],_,cells=>cells
  |s::t,p,cells=>placeZ size t ((p+stepF size)%size) (cells.set p ((s:Nat):Int))
theorem placeZ_nat (size:Nat):∀(t:List Nat) (p:Nat) (Z:List Int),(placeZ size t p Z).map Int.toNat=place size t p (Z.map Int.toNat)
  |[],_,_=>rfl
  |s::t,p,Z=>by simp only[placeZ,place,placeZ_nat size t,List.map_set,Int.toNat_natCast]
theorem placeZ_length (size:Nat):∀(t:List Nat) (p:Nat) (Z:List Int),(placeZ size t p Z).length=Z.length
  |[],_,_=>rfl
  |s::t,p,Z=>by simp[placeZ,placeZ_length size t]
theorem placeZ_final {cs:List Nat} {Z:List Int} (h:CountsB 6 cs) (hZ:Z.length=64):(placeZ 64 (flatC 0 cs) 0 Z).map Int.toNat=cellsF 6 cs:=by
  rw[placeZ_nat]
  exact cells_eq (log:=6) h (by rw[List.length_map,hZ])
theorem flat_drop {cs:List Nat} {s:Nat} (h:s<cs.length):flatC s (cs.drop s)=List.replicate (cs.getD s 0) s++flatC (s+1) (cs.drop (s+1)):=by
  rw[drop_getD h];rfl
theorem flat_end {cs:List Nat} {s:Nat} (h:cs.length≤s):flatC s (cs.drop s)=[]:=by rw[List.drop_of_length_le h];rfl
theorem rep_cons {n k s:Nat} (h:k<n):List.replicate (n-k) s=s::List.replicate (n-(k+1)) s:=by
  rw[show n-k=(n-(k+1))+1 by omega,List.replicate_succ]
theorem getD_map_toNat (Z:List Int) (i:Nat):(Z.map Int.toNat).getD i 0=(Z.getD i 0).toNat:=by
  simp only[List.getD_eq_getElem?_getD,List.getElem?_map]
  cases Z[i]? <;>rfl
theorem Bits.app {a b:List Nat} (ha:Bits a) (hb:Bits b):Bits (a++b):=fun x hx=>(List.mem_append.1 hx).elim (ha x) (hb x)
theorem encV_bits (most v:Nat):Bits (encV most v):=by
  unfold encV
  split
  · exact lowB_bits _ _
  · split<;>exact lowB_bits _ _
theorem zerosB_bits:∀m,Bits (zerosB m)
  |0=>lowB_bits _ _
  |1=>lowB_bits _ _
  |2=>lowB_bits _ _
  |m+3=>Bits.app (lowB_bits 3 2) (zerosB_bits m)
theorem Descr.bits {l:Nat} {cs E:List Nat} (h:Descr l cs E):Bits E:=by
  induction h with
  |done cs=>exact fun x hx=>by cases hx
  |pos l n cs b h0 hl hd ih=>exact Bits.app (encV_bits _ _) ih
  |zer l z c cs b h0 hc hd ih=>exact Bits.app (encV_bits _ _) (Bits.app (zerosB_bits _) ih)
theorem Descr.bits4 {l:Nat} {cs E bs:List Nat} (h:Descr l cs E) (e:bs=lowB 1 4++E):Bits bs:=e▸Bits.app (lowB_bits 1 4) h.bits
theorem placeZ_nonneg {cs:List Nat} {Z:List Int} (h:CountsB 6 cs) (hZ:Z.length=64) {p:Nat} (hp:p<64):0≤(placeZ 64 (flatC 0 cs) 0 Z).getD p 0:=by
  have hg:∀(t:List Nat) (q:Nat) (Z:List Int),(placeZ 64 t q Z).map (fun z=>(z+1).toNat)=place 64 (t.map (· +1)) q (Z.map (fun z=>(z+1).toNat)):=fun t=>by
    induction t with
    |nil=>intro q Z;rfl
    |cons s t ih=>
      intro q Z
      simp only[placeZ,place,List.map_cons,ih,List.map_set]
      congr 1
  obtain⟨j,hj,e⟩:=cell_met (.inr rfl:(64:Nat)=32∨(64:Nat)=64) hp
  have hl:(flatC 0 cs).length=64:=by rw[flatC_sum,h.sum]
  have:=place_get (size:=64) Od ((flatC 0 cs).map (· +1)) 0 (Z.map (fun z=>(z+1).toNat)) j Od (by rw[List.length_map,hZ]) (by rw[List.length_map,hl];exact hj) (fun i i' hi hi' he=>by
    rw[List.length_map,hl] at hi hi'
    exact step_inj (.inr rfl) hi hi' he)
  rw[Nat.zero_add,e, ←hg] at this
  have hpl:p<(placeZ 64 (flatC 0 cs) 0 Z).length:=by rw[placeZ_length,hZ];exact hp
  have hjl:j<(flatC 0 cs).length:=Om
  simp[List.getD_eq_getElem?_getD,hpl,hjl] at this ⊢
  omega
theorem CountsB.at_ {log:Nat} {cs:List Nat} (h:CountsB log cs) (i:Nat):cs.getD i 0<2^log:=by
  by_cases hi:i<cs.length
  · exact h.le _ (mem_getD hi)
  · have e:cs.getD i 0=0:=by simp[List.getD_eq_getElem?_getD,List.getElem?_eq_none (Nat.le_of_not_lt hi)]
    rw[e];exact Nat.pow_pos Om
theorem place_begin {cs:List Nat} {s at_:Nat} {Z F:List Int} (h:placeZ 64 (flatC s (cs.drop s)) at_ Z=F) (hs:s<cs.length):placeZ 64 (List.replicate (cs.getD s 0-0) s++flatC (s+1) (cs.drop (s+1))) at_ Z=F:=by
  rwa [flat_drop hs] at h
theorem place_next {n k s at_:Nat} {t:List Nat} {Z F:List Int} (h:placeZ 64 (List.replicate (n-k) s++t) at_ Z=F) (hk:k<n):placeZ 64 (List.replicate (n-(k+1)) s++t) ((at_+43)%64) (Z.set at_ ((s:Nat):Int))=F:=by
  rw[rep_cons hk] at h
  exact h
theorem place_over {n k s at_:Nat} {t:List Nat} {Z F:List Int} (h:placeZ 64 (List.replicate (n-k) s++t) at_ Z=F) (hk:n≤k):placeZ 64 t at_ Z=F:=by
  rwa [show n-k=0 by omega] at h
theorem place_end {cs:List Nat} {s at_:Nat} {Z F:List Int} (h:placeZ 64 (flatC s (cs.drop s)) at_ Z=F) (hs:cs.length≤s):Z=F:=by
  rwa [flat_end hs] at h
theorem outs_step {α:Type} {d r:α} {T F:List α} {u:Nat} (h:∀j,j<u→T.getD j d=F.getD j d) (hu:u<T.length) (hr:F.getD u d=r):∀j,j<u+1→(T.set u r).getD j d=F.getD j d:=fun j hj=>by
  by_cases e:j=u
  · subst e;simp[List.getD_eq_getElem?_getD,hu] at hr ⊢;exact hr.symm
  · have:=h j Om
    simpa [List.getD_eq_getElem?_getD,List.getElem?_set_ne (fun h=>e h.symm)] using this
theorem outs_done {α:Type} {d:α} {T F:List α} {u:Nat} (h:∀j,j<u→T.getD j d=F.getD j d) (hl:T.length=F.length) (hu:T.length≤u):T=F:=by
  apply List.ext_getElem hl
  intro i h1 h2
  have:=h i Om
  simpa [List.getD_eq_getElem?_getD,h1,h2] using this
theorem seen_step {C S:List Nat} {n u s:Nat} (h:∀x,x<n→S.getD x 0=(C.take u).count x) (hu:u<C.length) (hs:C.getD u 0=s) (hn:S.length=n) (hsn:s<n):∀x,x<n→(S.set s (S.getD s 0+1)).getD x 0=(C.take (u+1)).count x:=fun x hx=>by
  rw[take_getD hu,hs,List.count_append, ←h x hx]
  by_cases e:x=s
  · subst e
    rw[List.count_singleton_self]
    simp[List.getD_eq_getElem?_getD,hn,hsn]
  · rw[List.count_singleton]
    have:(s==x)=false:=by simp;omega
    simp[this,List.getD_eq_getElem?_getD,List.getElem?_set_ne (fun h=>e h.symm)]
theorem tableF_cell {cs:List Nat} (h:CountsB 6 cs) {u:Nat} (hu:u<64):((tableF 6 cs).getD u (0,0,0)).1<cs.length∧((tableF 6 cs).getD u (0,0,0)).2.1≤6∧((tableF 6 cs).getD u (0,0,0)).2.2+2^((tableF 6 cs).getD u (0,0,0)).2.1≤64:=by
  obtain⟨s,k,e,hs,hl,hk,h1,h2,h3,h4,h5,h6⟩:=tableF_get h (u:=u) hu
  rw[e]
  exact⟨hl,h4,h6⟩
structure AtOK (T:List Cell) (text:List Nat) (Z:List Int) (i:Nat):Prop where
  nn:0≤Z.getD i 0
  lt:Z.getD i 0<64
  sym:(T.getD (Z.getD i 0).toNat (0,0,0)).1=text.getD i 0
  step:i+2<text.length→(((T.getD (Z.getD i 0).toNat (0,0,0)).2.2:Nat):Int)≤Z.getD (i+2) 0∧Z.getD (i+2) 0<(((T.getD (Z.getD i 0).toNat (0,0,0)).2.2+2^(T.getD (Z.getD i 0).toNat (0,0,0)).2.1:Nat):Int)
theorem set_getD {α:Type} {Z:List α} {d v:α} {i p:Nat} (h:i<Z.length):(Z.set i v).getD p d=if p=i then v else Z.getD p d:=by
  split
  · next e=>subst e;simp[List.getD_eq_getElem?_getD,h]
  · next e=>simp[List.getD_eq_getElem?_getD,List.getElem?_set_ne (fun h=>e h.symm)]
theorem set_other {α:Type} {Z:List α} {d v:α} {i p:Nat} (hp:p≠i):(Z.set i v).getD p d=Z.getD p d:=by
  simp[List.getD_eq_getElem?_getD,List.getElem?_set_ne (fun h=>hp h.symm)]
theorem AtOK.put {T:List Cell} {text:List Nat} {Z:List Int} {i k:Nat} (hl:i<Z.length) (hk:k<64) (hs:(T.getD k (0,0,0)).1=text.getD i 0)
    (h:i+2<text.length→(((T.getD k (0,0,0)).2.2:Nat):Int)≤Z.getD (i+2) 0∧Z.getD (i+2) 0<(((T.getD k (0,0,0)).2.2+2^(T.getD k (0,0,0)).2.1:Nat):Int)):AtOK T text ((Z.set i (-1)).set i ((k:Nat):Int)) i:=by
  have e:((Z.set i (-1)).set i ((k:Nat):Int)).getD i 0=(k:Int):=by rw[set_getD (by rw[List.length_set];exact hl),if_pos rfl]
  have e2:((Z.set i (-1)).set i ((k:Nat):Int)).getD (i+2) 0=Z.getD (i+2) 0:=by rw[set_other Om,set_other Om]
  constructor
  · rw[e];omega
  · rw[e];omega
  · rw[e];exact hs
  · intro h2
    rw[e,e2];exact h h2
theorem AtOK.keep {T:List Cell} {text:List Nat} {Z Y:List Int} {i p:Nat} (hY:∀p,p≠i→Y.getD p 0=Z.getD p 0) (hp:i<p) (h:AtOK T text Z p):AtOK T text Y p:=by
  constructor
  · rw[hY p Om];exact h.nn
  · rw[hY p Om];exact h.lt
  · rw[hY p Om];exact h.sym
  · rw[hY p Om,hY (p+2) Om];exact h.step
theorem AtOK.next {T:List Cell} {text:List Nat} {Z Y:List Int} {n i:Nat} (hY:∀p,p≠i→Y.getD p 0=Z.getD p 0) (h:∀p,i+1≤p→p<n→AtOK T text Z p) (hi:AtOK T text Y i):∀p,i≤p→p<n→AtOK T text Y p:=fun p h1 h2=>by
  by_cases e:p=i
  · subst e;exact hi
  · exact(h p Om h2).keep hY Om
theorem getD_toNat (Z:List Int) (i:Nat):(Z.map Int.toNat).getD i 0=(Z.getD i 0).toNat:=by
  simp only[List.getD_eq_getElem?_getD,List.getElem?_map]
  cases Z[i]? <;>rfl
theorem FseT.ofAt {T:List Cell} {text:List Nat} {Z:List Int} (hl:Z.length=text.length) (h2:2≤text.length) (h:∀p,p<text.length→AtOK T text Z p):FseT 6 T text (Z.map Int.toNat):=by
  refine⟨by rw[List.length_map,hl],h2,fun a ha=>?_,fun i hi=>?_,fun i hi=>?_⟩
  · obtain⟨z,hz,rfl⟩:=List.mem_map.1 ha
    obtain⟨i,hi,rfl⟩:=List.getElem_of_mem hz
    have:=(h i Om).lt
    have h0:=(h i Om).nn
    simp only[List.getD_eq_getElem?_getD,List.getElem?_eq_getElem hi,Option.getD_some] at this h0
    show _<64
    omega
  · rw[getD_toNat];exact(h i hi).sym
  · have:=(h i Om).step hi
    have h0:=(h (i+2) hi).nn
    rw[getD_toNat,getD_toNat]
    omega
theorem FseT.at_ {log:Nat} {T:List Cell} {text A:List Nat} (h:FseT log T text A) (i:Nat):A.getD i 0<2^log:=by
  by_cases hi:i<A.length
  · exact h.lt _ (mem_getD hi)
  · have e:A.getD i 0=0:=by simp[List.getD_eq_getElem?_getD,List.getElem?_eq_none (Nat.le_of_not_lt hi)]
    rw[e];exact Nat.pow_pos Om
theorem num_step {log:Nat} {T:List Cell} {text A P:List Nat} {i V:Nat} (hF:FseT log T text A) (hi:i+2<text.length) (hV:bitsV P*2^fN T (A.drop i)+fR T (A.drop i)=V):
    bitsV (P++highB (A.getD (i+2) 0-(T.getD (A.getD i 0) (0,0,0)).2.2) (T.getD (A.getD i 0) (0,0,0)).2.1)*2^fN T (A.drop (i+1))+fR T (A.drop (i+1))=V:=by
  obtain⟨e1,e2⟩:=fN_cons (T:=T) (at_:=A) (i:=i) (by rw[hF.len];exact hi)
  have hs:=hF.step i hi
  rw[e1,e2] at hV
  rw[bitsV_append,bitsV_highB,highB_length,Nat.mod_eq_of_lt Om, ←hV,Nat.add_mul,Nat.mul_assoc, ←Nat.pow_add]
  omega
theorem num_len {log:Nat} {T:List Cell} {text A:List Nat} {i m K:Nat} (hF:FseT log T text A) (hi:i+2<text.length) (hm:m+fN T (A.drop i)=K):m+(T.getD (A.getD i 0) (0,0,0)).2.1+fN T (A.drop (i+1))=K:=by
  obtain⟨e1,e2⟩:=fN_cons (T:=T) (at_:=A) (i:=i) (by rw[hF.len];exact hi)
  omega
theorem num_begin {a b N R:Nat} (ha:a<64) (hb:b<64):bitsV (([]++highB a 6)++highB b 6)*2^N+R=(a*2^6+b)*2^N+R:=by
  rw[List.nil_append,bitsV_append,bitsV_highB,bitsV_highB,highB_length,Nat.mod_eq_of_lt (show a<2^6 from ha),Nat.mod_eq_of_lt (show b<2^6 from hb)]
structure FsePacked (T:List Cell) (text ys:List Nat):Prop where
  ex:∃A,FseT 6 T text A∧Bytes ys∧ys.length=(12+fN T A)/8+1∧tailV ys 0 ((12+fN T A)/8+1)=2^(12+fN T A)+((A.getD 0 0*2^6+A.getD 1 0)*2^fN T A+fR T A)
theorem FsePacked.mk' {T:List Cell} {text ys A P:List Nat} {m i:Nat} (hF:FseT 6 T text A) (hi:text.length≤i+2) (hV:bitsV P*2^fN T (A.drop i)+fR T (A.drop i)=(A.getD 0 0*2^6+A.getD 1 0)*2^fN T A+fR T A) (hm:m+fN T (A.drop i)=12+fN T A) (hB:Bytes ys) (hL:ys.length=m/8+1) (hT:tailV ys 0 (m/8+1)=2^m+bitsV P):FsePacked T text ys:=by
  obtain⟨e1,e2⟩:=fN_end (T:=T) (at_:=A) (i:=i) (by rw[hF.len];exact hi)
  rw[e1,e2,Nat.pow_zero,Nat.mul_one,Nat.add_zero] at hV
  rw[e1,Nat.add_zero] at hm
  subst hm
  exact⟨A,hF,hB,hL,by rw[hT,hV]⟩
structure DescrB (cs H:List Nat):Prop where
  ex:∃E,Descr 64 cs E∧Bytes H∧H.length=(4+E.length+7)/8∧tailV H 0 ((4+E.length+7)/8)=lowV (lowB 1 4++E)∧E.length≤16*cs.length
  sum:cs.sum=64
  two:1<nzc cs
structure FseBlk (cs text ys:List Nat):Prop where
  cB:CountsB 6 cs
  ex:∃H B,ys=H++B∧DescrB cs H∧FsePacked (tableF 6 cs) text B
theorem DescrB.counts {cs H:List Nat} (h:DescrB cs H) (hl:cs.length≤256) (ha:AllLe cs 63):CountsB 6 cs:=⟨.inr rfl,h.sum,hl,fun c hc=>Nat.lt_succ_of_le (ha c hc)⟩
def wOf (L n:Nat):Nat:=if n=0 then 0 else L+1-n
def weightsOf (ls:List Nat) (L last:Nat):List Nat:=(ls.take last).map (wOf L)
structure ML (ls:List Nat) (i L last:Nat):Prop where
  le:AllLe (ls.take i) L
  at_:L=0∨∃p,p<i∧ls.getD p 0=L
  z:∀p,last<p→p<i→ls.getD p 0=0
  nz:(last<i∧ls.getD last 0≠0)∨(last=0∧∀p,p<i→ls.getD p 0=0)
structure HW (ls:List Nat) (L last:Nat):Prop where
  le:AllLe ls L
  at_:∃p,p<ls.length∧ls.getD p 0=L
  lt:last<ls.length
  nz:ls.getD last 0≠0
  z:∀p,last<p→ls.getD p 0=0
theorem ML.init (ls:List Nat):ML ls 0 0 0:=⟨fun x hx=>by simp at hx,.inl rfl,fun p _ h=>Om,.inr ⟨rfl,fun p h=>Om⟩⟩
theorem ML.both {ls:List Nat} {i L last:Nat} (h:ML ls i L last) (hi:i<ls.length):AllLe (ls.take (i+1)) (max L (ls.getD i 0))∧(max L (ls.getD i 0)=0∨∃p,p<i+1∧ls.getD p 0=max L (ls.getD i 0)):=by
  refine⟨fun x hx=>?_,?_⟩
  · rw[take_getD hi] at hx
    rcases List.mem_append.1 hx with h1|h1
    · have:=h.le x h1;omega
    · rw[List.mem_singleton] at h1;omega
  · rcases Nat.le_total L (ls.getD i 0) with h1|h1
    · exact .inr ⟨i,Om,Om⟩
    · rcases h.at_ with h2|⟨p,h2,h3⟩
      · left;omega
      · exact .inr ⟨p,Om,Om⟩
theorem ML.s0 {ls:List Nat} {i L last:Nat} (h:ML ls i L last) (hi:i<ls.length) (h0:ls.getD i 0=0):ML ls (i+1) (max L (ls.getD i 0)) last:=by
  obtain⟨h1,h2⟩:=h.both hi
  have hz:∀p,p<i+1→p<i∨p=i:=fun p hp=>by omega
  refine⟨h1,h2,fun p h3 h4=>?_,?_⟩
  · rcases hz p h4 with h5|h5
    · exact h.z p h3 h5
    · rw[h5];exact h0
  · rcases h.nz with ⟨h3,h4⟩|⟨h3,h4⟩
    · exact .inl ⟨Om,h4⟩
    · refine .inr ⟨h3,fun p hp=>?_⟩
      rcases hz p hp with h5|h5
      · exact h4 p h5
      · rw[h5];exact h0
theorem ML.s1 {ls:List Nat} {i L last:Nat} (h:ML ls i L last) (hi:i<ls.length) (h0:ls.getD i 0≠0):ML ls (i+1) (max L (ls.getD i 0)) i:=by
  obtain⟨h1,h2⟩:=h.both hi
  exact⟨h1,h2,fun p h3 h4=>Om,.inl ⟨Om,h0⟩⟩
theorem ML.done {ls:List Nat} {i L last:Nat} (h:ML ls i L last) (hi:ls.length≤i) (hw:WholeL ls):HW ls L last:=by
  have ho:∀p,ls.length≤p→ls.getD p 0=0:=fun p hp=>by simp[List.getD_eq_getElem?_getD,List.getElem?_eq_none hp]
  obtain⟨j,hj,hj0⟩:=hw.some'
  have hle:=h.le
  rw[List.take_of_length_le hi] at hle
  have hL:L≠0:=fun e=>by have:=hle.at_ j;omega
  refine⟨hle,?_,?_,?_,fun p hp=>?_⟩
  · rcases h.at_ with h1|⟨p,h1,h2⟩
    · exact(hL h1).elim
    · refine⟨p,Classical.byContradiction fun hn=>hL ?_,h2⟩
      rw[←h2];exact ho p Om
  · rcases h.nz with ⟨h1,h2⟩|⟨h1,h2⟩
    · exact Classical.byContradiction fun hn=>h2 (ho _ Om)
    · exact absurd (h2 j Om) hj0
  · rcases h.nz with ⟨h1,h2⟩|⟨h1,h2⟩
    · exact h2
    · exact absurd (h2 j Om) hj0
  · by_cases h1:p<i
    · exact h.z p hp h1
    · exact ho p Om
theorem weightsOf_length {ls:List Nat} {L last:Nat} (h:last≤ls.length):(weightsOf ls L last).length=last:=by simp[weightsOf];omega
theorem weightsOf_get {ls:List Nat} {L last p:Nat} (h:last≤ls.length) (hp:p<last):(weightsOf ls L last).getD p 0=wOf L (ls.getD p 0):=by
  simp[weightsOf,List.getD_eq_getElem?_getD,hp,show p<ls.length by omega]
theorem weightsOf_le {ls:List Nat} {L last:Nat}:AllLe (weightsOf ls L last) L:=fun x hx=>by
  obtain⟨n,_,rfl⟩:=List.mem_map.1 hx
  unfold wOf;split<;>omega
theorem wts_s0 {ls X:List Nat} {L last i:Nat} (h:∀j,j<i→X.getD j 0=(weightsOf ls L last).getD j 0) (hz:∀j,i≤j→X.getD j 0=0) (hl:last≤ls.length) (hi:i<last) (h0:ls.getD i 0=0):∀j,j<i+1→X.getD j 0=(weightsOf ls L last).getD j 0:=fun j hj=>by
  by_cases e:j=i
  · subst e;rw[hz j (Nat.le_refl _),weightsOf_get hl hi,h0];rfl
  · exact h j Om
theorem wts_s1 {ls X:List Nat} {L last i:Nat} (h:∀j,j<i→X.getD j 0=(weightsOf ls L last).getD j 0) (hX:i<X.length) (hl:last≤ls.length) (hi:i<last) (h0:ls.getD i 0≠0):∀j,j<i+1→(X.set i (L+1-ls.getD i 0)).getD j 0=(weightsOf ls L last).getD j 0:=
  outs_step h hX (by rw[weightsOf_get hl hi,wOf,if_neg h0])
theorem zer_step {X:List Nat} {i v:Nat} (hz:∀j,i≤j→X.getD j 0=0):∀j,i+1≤j→(X.set i v).getD j 0=0:=fun j hj=>by rw[set_other Om];exact hz j Om
def nib:List Nat→List Nat
  |a::b::r=>(a*16+b)::nib r
  |[a]=>[a*16]
  |[]=>[]
theorem nib_length:∀xs:List Nat,(nib xs).length=(xs.length+1)/2
  |[]=>by simp[nib]
  |[a]=>by simp[nib]
  |a::b::r=>by simp only[nib,List.length_cons,nib_length r];omega
theorem nib_even:∀(xs:List Nat) (x:Nat),xs.length%2=0→nib (xs++[x])=nib xs++[x*16]
  |[],x,_=>rfl
  |[a],x,h=>by simp at h
  |a::b::r,x,h=>by
    simp only[List.cons_append,nib]
    rw[nib_even r x (by simp only[List.length_cons] at h;omega)]
theorem or16 (a x:Nat) (h:x<16):a*16|||x=a*16+x:=by
  have:=Nat.two_pow_add_eq_or_of_lt (i:=4) (b:=x) h a
  rw[show(2:Nat)^4*a=a*16 by omega] at this
  exact this.symm
theorem nib_odd:∀(xs:List Nat) (x:Nat),xs.length%2=1→x<16→nib (xs++[x])=(nib xs).set ((nib xs).length-1) ((nib xs).getD ((nib xs).length-1) 0|||x)
  |[],x,h,_=>by simp at h
  |[a],x,_,hx=>by simp[nib,or16 a x hx]
  |a::b::r,x,h,hx=>by
    have h':r.length%2=1:=by simp only[List.length_cons] at h;omega
    have hl:=nib_length r
    obtain⟨m,hm⟩:∃m,(nib r).length=m+1:=⟨(nib r).length-1,Om⟩
    simp only[List.cons_append,nib,List.length_cons]
    rw[nib_odd r x h' hx,hm]
    simp
theorem nibs_even {W P:List Nat} {i n:Nat} (hP:P=[n]++nib (W.take i)) (hi:i<W.length) (h:i%2=0):P++[W.getD i 0*16]=[n]++nib (W.take (i+1)):=by
  rw[take_getD hi,nib_even _ _ (by rw[List.length_take];omega),hP,List.append_assoc]
theorem nibs_odd {W P:List Nat} {i n m:Nat} (hP:P=[n]++nib (W.take i)) (hm:P.length=m) (hi:i<W.length) (h:i%2=1) (hx:W.getD i 0<16):P.set (m-1) (P.getD (m-1) 0|||W.getD i 0)=[n]++nib (W.take (i+1)):=by
  have hl:=nib_length (W.take i)
  rw[List.length_take] at hl
  rw[take_getD hi,nib_odd _ _ (by rw[List.length_take];omega) hx, ←hm,hP]
  obtain⟨k,hk⟩:∃k,(nib (W.take i)).length=k+1:=⟨(nib (W.take i)).length-1,Om⟩
  simp[hk]
theorem nibs_len {W P:List Nat} {i n m:Nat} (hP:P=[n]++nib (W.take i)) (hm:P.length=m) (hi:i≤W.length):m=1+(i+1)/2:=by
  rw[←hm,hP,List.length_append,nib_length,List.length_take];simp;omega
structure TreeN (ls ys:List Nat):Prop where
  ex:∃L last,HW ls L last∧last≤128∧ys=[127+last]++nib (weightsOf ls L last)
structure TreeP (ls ys:List Nat):Prop where
  ex:∃L last cs b,HW ls L last∧cs.length=13∧AllLe cs 63∧FseBlk cs (weightsOf ls L last) b∧b.length≤127∧ys=[b.length]++b
structure PressB (ws ys:List Nat):Prop where
  ex:∃cs b,cs.length=13∧AllLe cs 63∧FseBlk cs ws b∧b.length≤127∧ys=[b.length]++b
theorem cnt_step {C:List Nat} {x m:Nat} (h:AllLe C m):AllLe (C.set x (C.getD x 0+1)) (m+1):=fun y hy=>by
  rcases List.mem_or_eq_of_mem_set hy with h1|h1
  · have:=h y h1;omega
  · have:=h.at_ x;omega
theorem AllLe.rep0 (n m:Nat):AllLe (List.replicate n 0) m:=fun y hy=>by rw[List.mem_replicate] at hy;omega
theorem share_le {n L:Nat} (h:n≤L):n*40/L≤40:=Nat.div_le_of_le_mul Om
theorem fit {C:List Nat} {k v w:Nat} (h:AllLe C w) (hv:v≤w):AllLe (C.set k v) w:=fun y hy=>by
  rcases List.mem_or_eq_of_mem_set hy with h1|h1
  · exact h y h1
  · omega
theorem low_step {C:List Nat} {i v:Nat} (h:∀p,p<i→C.getD p 0≤40) (hv:v≤40):∀p,p<i+1→(C.set i v).getD p 0≤40:=fun p hp=>by
  by_cases e:p=i
  · subst e
    by_cases hl:p<C.length
    · rw[set_getD hl,if_pos rfl];exact hv
    · rw[List.getD_eq_getElem?_getD,List.getElem?_eq_none (by rw[List.length_set];omega)];exact Nat.zero_le _
  · rw[set_other e];exact h p Om
theorem low_step0 {C:List Nat} {i:Nat} (h:∀p,p<i→C.getD p 0≤40) (hv:C.getD i 0=0):∀p,p<i+1→C.getD p 0≤40:=fun p hp=>by
  by_cases e:p=i
  · subst e;omega
  · exact h p Om
theorem high_step {C:List Nat} {i v m:Nat} (h:∀p,i≤p→C.getD p 0≤m):∀p,i+1≤p→(C.set i v).getD p 0≤m:=fun p hp=>by rw[set_other Om];exact h p Om
theorem low_all {C:List Nat} {n:Nat} (h:∀p,p<n→C.getD p 0≤40) (hn:C.length≤n):AllLe C 63:=fun x hx=>by
  obtain⟨i,hi,rfl⟩:=List.getElem_of_mem hx
  have:=h i Om
  simp[List.getD_eq_getElem?_getD,hi] at this
  omega
theorem nib_bytes:∀xs:List Nat,AllLe xs 15→Bytes (nib xs)
  |[],_=>fun x hx=>by simp[nib] at hx
  |[a],h=>fun x hx=>by
    have:=h a Oi
    simp[nib] at hx;omega
  |a::b::r,h=>fun x hx=>by
    have h1:=h a Oi
    have h2:=h b Oi
    simp only[nib,List.mem_cons] at hx
    rcases hx with hx|hx
    · omega
    · exact nib_bytes r (fun y hy=>h y (by simp[hy])) x hx
theorem nibs_bytes {X:List Nat} {n i:Nat} (hn:n<256) (h:AllLe X 15):Bytes ([n]++nib (X.take i)):=fun x hx=>by
  rcases List.mem_append.1 hx with h1|h1
  · rw[List.mem_singleton] at h1;omega
  · exact nib_bytes _ (fun y hy=>h y (List.mem_of_mem_take hy)) x h1
theorem fN_le {cs text A:List Nat} (hC:CountsB 6 cs) (h:FseT 6 (tableF 6 cs) text A):fN (tableF 6 cs) A≤6*text.length:=by
  have:∀d i,A.length-i=d→fN (tableF 6 cs) (A.drop i)≤6*(A.length-i):=fun d=>by
    induction d with
    |zero=>intro i hi;rw[(fN_end (T:=tableF 6 cs) (at_:=A) (i:=i) Om).1];omega
    |succ d ih=>
      intro i hi
      rcases Nat.lt_or_ge (i+2) A.length with h2|h2
      · have h3:=ih (i+1) Om
        have h4:=(tableF_cell hC (h.at_ i)).2.1
        rw[(fN_cons (T:=tableF 6 cs) (at_:=A) (i:=i) h2).1]
        omega
      · rw[(fN_end (T:=tableF 6 cs) (at_:=A) (i:=i) h2).1];omega
  have:=this _ 0 rfl
  rwa [List.drop_zero,Nat.sub_zero,h.len] at this
end Go.Proofs.YtplgbfkpeampgaaGreatDoor
namespace Go.Proofs.YtplgbfkpeampgaaGreatDoor
open Go
theorem ints_toNat {k:IntKind} {Z:List Int} (h:∀p,p<Z.length→0≤Z.getD p 0):ints k Z=nats k (Z.map Int.toNat):=by
  simp only[ints,nats,List.map_map]
  apply List.map_congr_left
  intro z hz
  obtain⟨i,hi,rfl⟩:=List.getElem_of_mem hz
  have:=h i hi
  simp[List.getD_eq_getElem?_getD,hi] at this
  simp[Int.toNat_of_nonneg this]
theorem placeZ_nats {cs:List Nat} {Z:List Int} (h:CountsB 6 cs) (hZ:Z.length=64):ints .i64 (placeZ 64 (flatC 0 cs) 0 Z)=nats .i64 (cellsF 6 cs):=by
  rw[ints_toNat (fun p hp=>placeZ_nonneg h hZ (by rw[placeZ_length,hZ] at hp;exact hp)),placeZ_final h hZ]
theorem App.ofInts {k:IntKind} {Z:List Int} {xs:List Nat} {m b:Nat} (h:ints k Z=nats k xs) (hl:xs.length=m):App k xs m (.slice (some ⟨b,0,none⟩) m m) [⟨b,0,ints k Z,none⟩]:=by
  rw[h]
  exact⟨_,b,0,_,m,rfl,⟨by simp[hl],.inl rfl⟩,Nat.le_refl _,List.take_of_length_le (by simp[hl]),hl,rfl⟩
theorem ints_get_set {k:IntKind} {Z:List Int} {i p:Nat} {a:Int} (h:p<Z.length) (hp:p≠i):(ints k (Z.set i a))[p]? =some (.int k (Z.getD p 0)):=by
  rw[ints_get (by rw[List.length_set];exact h),set_other hp]
theorem nats_ints (k:IntKind) (C:List Nat):nats k C=ints k (C.map Int.ofNat):=by simp[nats,ints,Function.comp_def]
theorem ints_ofNat_get {k:IntKind} {C:List Nat} {i:Nat} (h:i<C.length):(ints k (C.map Int.ofNat))[i]? =some (.int k ((C.getD i 0:Nat):Int)):=by
  rw[←nats_ints];exact nats_get h
theorem ints_put_get {k:IntKind} {Z:List Int} {i:Nat} {a:Int} (h:i<Z.length):(ints k (Z.set i a))[i]? =some (.int k a):=by
  rw[ints_get (by rw[List.length_set];exact h),set_getD h,if_pos rfl]
theorem ints_back {k:IntKind} {C:List Nat} {i:Nat} {a:Int} (h:0≤a):ints k ((C.map Int.ofNat).set i a)=nats k (C.set i a.toNat):=by
  rw[nats_ints,List.map_set]
  congr 2
  exact(Int.toNat_of_nonneg h).symm
end Go.Proofs.YtplgbfkpeampgaaGreatDoor
namespace Go.Proofs.YtplgbfkpeampgaaGreatDoor
def Low (xs:List Nat) (len p:Nat) (bs:List Nat):Prop:=(p+bs.length+7)/8≤len∧tailV xs 0 len/2^p%2^bs.length=lowV bs
theorem Low.take {xs bs:List Nat} {len p v n:Nat} (h:Low xs len p (lowB v n++bs)) (hb:Bytes xs):bitsN xs p n=v%2^n∧Low xs len (p+n) bs∧(p+n+7)/8≤len:=by
  obtain⟨h1,h2⟩:=h
  rw[List.length_append,lowB_length] at h1 h2
  have hf:(p+n+7)/8≤len:=Om
  rw[lowV_append,lowV_lowB,lowB_length,Nat.pow_add] at h2
  have hlt:v%2^n<2^n:=Nat.mod_lt _ (Nat.pow_pos Om)
  refine⟨?_,⟨Om,?_⟩,hf⟩
  · rw[bitsN_eq hb n hf]
    have:=congrArg (· %2^n) h2
    simp only[Nat.mod_mul_right_mod,Nat.add_mul_mod_self_left] at this
    rw[this,Nat.mod_mod]
  · have:=congrArg (· /2^n) h2
    simp only[Nat.mod_mul_right_div_self] at this
    rw[Nat.pow_add, ←Nat.div_div_eq_div_mul,this,Nat.add_mul_div_left _ _ (Nat.pow_pos Om),Nat.div_eq_of_lt hlt,Nat.zero_add]
theorem one_bit (v n:Nat):lowB v (n+1)=lowB v n++lowB (v/2^n) 1:=by rw[lowB_succ];simp[lowB]
theorem encV_read {xs bs:List Nat} {len p most v:Nat} (h:Low xs len p (encV most v++bs)) (hb:Bytes xs) (hv:v≤most) (h0:0<most):
    (p+(blen most-1)+7)/8≤len∧((v<2^blen most-1-most∧bitsN xs p (blen most-1)=v∧Low xs len (p+(blen most-1)) bs∧(encV most v).length=blen most-1)∨
      (2^blen most-1-most≤bitsN xs p (blen most-1)∧(p+(blen most-1)+1+7)/8≤len∧Low xs len (p+(blen most-1)+1) bs∧(encV most v).length=blen most-1+1∧
        ((bitsN xs (p+(blen most-1)) 1=1∧bitsN xs p (blen most-1)+2^(blen most-1)=v+(2^blen most-1-most)∧2^(blen most-1)≤v)∨(bitsN xs (p+(blen most-1)) 1=0∧bitsN xs p (blen most-1)=v∧v<2^(blen most-1))))):=by
  have hk:=blen_pos h0
  have hk1:=blen_ge h0
  have hk2:=blen_lt most
  obtain⟨k,hk3⟩:∃k,blen most=k+1:=⟨blen most-1,Om⟩
  rw[hk3,Nat.pow_succ] at hk2
  rw[hk3,Nat.add_sub_cancel] at hk1
  by_cases h1:v<2^blen most-1-most
  · have e:encV most v=lowB v (blen most-1):=if_pos h1
    rw[e] at h
    obtain⟨a,b,c⟩:=h.take hb
    rw[hk3,Nat.pow_succ] at h1
    refine⟨c,.inl ⟨by rw[hk3,Nat.pow_succ];exact h1,?_,b,by rw[e,lowB_length]⟩⟩
    rw[a,Nat.mod_eq_of_lt];rw[hk3,Nat.add_sub_cancel];omega
  · by_cases h2:v<2^(blen most-1)
    · have e:encV most v=lowB v (blen most):=by unfold encV;rw[if_neg h1,if_pos h2]
      rw[e,hk3,one_bit,List.append_assoc] at h
      obtain⟨a,b,c⟩:=h.take hb
      obtain⟨a2,b2,c2⟩:=b.take hb
      rw[hk3,Nat.add_sub_cancel] at h2
      rw[Nat.mod_eq_of_lt h2] at a
      rw[Nat.div_eq_of_lt h2] at a2
      rw[hk3,Nat.pow_succ] at h1
      rw[hk3,Nat.add_sub_cancel,Nat.pow_succ]
      exact⟨c,.inr ⟨Om,c2,b2,by rw[e,lowB_length,hk3],.inr ⟨a2,a,h2⟩⟩⟩
    · have e:encV most v=lowB (v+(2^blen most-1-most)) (blen most):=by unfold encV;rw[if_neg h1,if_neg h2]
      rw[e,hk3,one_bit,List.append_assoc] at h
      obtain⟨a,b,c⟩:=h.take hb
      obtain⟨a2,b2,c2⟩:=b.take hb
      rw[hk3,Nat.add_sub_cancel] at h2
      rw[hk3,Nat.pow_succ] at h1
      rw[Nat.pow_succ] at a a2
      have hlt:v+(2^k*2-1-most)<2^k*2:=Om
      have hd:(v+(2^k*2-1-most))/2^k=1:=by
        rw[Nat.div_eq_of_lt_le]<;>omega
      have hm:(v+(2^k*2-1-most))%2^k=v+(2^k*2-1-most)-2^k:=by
        have:=Nat.div_add_mod (v+(2^k*2-1-most)) (2^k)
        rw[hd,Nat.mul_one] at this
        omega
      rw[hm] at a
      rw[hd] at a2
      rw[hk3,Nat.add_sub_cancel,Nat.pow_succ]
      exact⟨c,.inr ⟨Om,c2,b2,by rw[e,lowB_length,hk3],.inl ⟨a2,Om,Om⟩⟩⟩
theorem zer_read {xs bs:List Nat} {len p z:Nat} (h:Low xs len p (zerosB z++bs)) (hb:Bytes xs):
    ∃t,bitsN xs p 2=t∧t≤3∧t≤z∧(p+2+7)/8≤len∧((t=3∧Low xs len (p+2) (zerosB (z-3)++bs)∧(zerosB z).length=2+(zerosB (z-3)).length)∨(t<3∧t=z∧Low xs len (p+2) bs∧(zerosB z).length=2)):=by
  by_cases h3:3≤z
  · have e:=zerosB_step h3
    rw[e,List.append_assoc] at h
    obtain⟨a,b,c⟩:=h.take hb
    exact⟨3,a,Om,h3,c,.inl ⟨rfl,b,by rw[e,List.length_append,lowB_length]⟩⟩
  · have e:=zerosB_end (show z<3 by omega)
    rw[e] at h
    obtain⟨a,b,c⟩:=h.take hb
    rw[Nat.mod_eq_of_lt Om] at a
    exact⟨z,a,Om,Nat.le_refl _,c,.inr ⟨Om,rfl,b,by rw[e,lowB_length]⟩⟩
theorem Descr.inv {left:Nat} {cs E:List Nat} (h:Descr left cs E) (h0:0<left):∃n t b,E=encV (left+1) (n+1)++b∧cs=n::t∧n≤left∧
    ((0<n∧Descr (left-n) t b)∨(n=0∧∃z c t2 b2,b=zerosB z++b2∧t=List.replicate z 0++c::t2∧Descr left (c::t2) b2)):=by
  cases h with
  |done cs=>omega
  |pos l n t b h1 h2 h3=>exact⟨n,t,b,rfl,rfl,h2,.inl ⟨h1,h3⟩⟩
  |zer l z c t b h1 h2 h3=>exact⟨0,_,_,rfl,rfl,Om,.inr ⟨rfl,z,c,t,b,rfl,rfl,h3⟩⟩
theorem Descr.end0 {cs E:List Nat} {left:Nat} (h:Descr left cs E) (h0:left=0):E=[]:=by
  cases h with
  |done cs=>rfl
  |pos l n t b h1 h2 h3=>omega
  |zer l z c t b h1 h2 h3=>omega
theorem Low.skip {xs a bs:List Nat} {len p:Nat} (h:Low xs len p (a++bs)) (ha:Bits a):Low xs len (p+a.length) bs:=by
  obtain⟨h1,h2⟩:=h
  rw[List.length_append] at h1 h2
  rw[lowV_append,Nat.pow_add] at h2
  refine⟨Om,?_⟩
  have:=congrArg (· /2^a.length) h2
  simp only[Nat.mod_mul_right_div_self] at this
  rw[Nat.pow_add, ←Nat.div_div_eq_div_mul,this,Nat.add_mul_div_left _ _ (Nat.pow_pos Om),Nat.div_eq_of_lt (lowV_lt ha),Nat.zero_add]
theorem Low.le {xs bs:List Nat} {len p:Nat} (h:Low xs len p bs):p≤8*len:=by have:=h.1;omega
theorem Low.ofTail {xs bs:List Nat} {len:Nat} (hl:(bs.length+7)/8≤len) (h:tailV xs 0 len%2^bs.length=lowV bs):Low xs len 0 bs:=⟨Om,by rw[Nat.pow_zero,Nat.div_one];exact h⟩
end Go.Proofs.YtplgbfkpeampgaaGreatDoor
namespace Go.Proofs.YtplgbfkpeampgaaGreatDoor
open Go
def AppF (Φ:List Nat→List Nat→Prop) (v:Value) (l':List Seg):Prop:=∃q b o cs cap xs n q2 b2 o2 cs2 cap2 ys n2,v=.tuple #[.slice q n cap,.int .i64 ((6:Nat):Int),.slice q2 n2 cap2,.bool true]∧GS q b o cs 1 cap∧n≤cap∧cs.take n=nats .i64 xs∧xs.length=n∧GS q2 b2 o2 cs2 1 cap2∧n2≤cap2∧cs2.take n2=nats .u8 ys∧ys.length=n2∧Φ xs ys∧l'=[⟨b,o,cs,none⟩,⟨b2,o2,cs2,none⟩]
theorem AppF.mk {Φ:List Nat→List Nat→Prop} {q:Option Addr} {b o:Nat} {cs:List Value} {cap:Nat} {xs:List Nat} {n:Nat} {q2:Option Addr} {b2 o2:Nat} {cs2:List Value} {cap2:Nat} {ys:List Nat} {n2:Nat} (h1:GS q b o cs 1 cap) (h2:n≤cap) (h3:cs.take n=nats .i64 xs) (h4:xs.length=n) (h5:GS q2 b2 o2 cs2 1 cap2) (h6:n2≤cap2) (h7:cs2.take n2=nats .u8 ys) (h8:ys.length=n2) (h9:Φ xs ys):
    AppF Φ (.tuple #[.slice q n cap,.int .i64 ((6:Nat):Int),.slice q2 n2 cap2,.bool true]) [⟨b,o,cs,none⟩,⟨b2,o2,cs2,none⟩]:=⟨q,b,o,cs,cap,xs,n,q2,b2,o2,cs2,cap2,ys,n2,rfl,h1,h2,h3,h4,h5,h6,h7,h8,h9,rfl⟩
def AppU (k:IntKind) (Φ:List Nat→Prop) (v:Value) (l':List Seg):Prop:=∃ok q b o cs cap xs n,v=.tuple #[.slice q n cap,.bool ok]∧GS q b o cs 1 cap∧n≤cap∧cs.take n=nats k xs∧xs.length=n∧Φ xs∧l'=[⟨b,o,cs,none⟩]
theorem AppU.mk {k:IntKind} {Φ:List Nat→Prop} {P:List Nat} {m:Nat} {q:Option Addr} {b o cap:Nat} {cs:List Value} {ok:Bool} (hg:GS q b o cs 1 cap) (hc:m≤cap) (hp:cs.take m=nats k P) (hl:P.length=m) (h:Φ P):AppU k Φ (.tuple #[.slice q m cap,.bool ok]) [⟨b,o,cs,none⟩]:=⟨ok,q,b,o,cs,cap,P,m,rfl,hg,hc,hp,hl,h,rfl⟩
theorem AppU.no {k:IntKind} {Φ:List Nat→Prop} {ok:Bool} (h:Φ []):AppU k Φ (.tuple #[.slice none 0 0,.bool ok]) [⟨0,0,[],none⟩]:=⟨ok,none,0,0,[],0,[],0,rfl,⟨rfl,.inr ⟨rfl,rfl⟩⟩,Nat.le_refl _,rfl,rfl,h,rfl⟩
def AppW (Φ:List Nat→Prop) (v:Value) (l':List Seg):Prop:=∃u:Int,∃ok q b o cs cap xs n,v=.tuple #[.slice q n cap,.int .i64 u,.bool ok]∧GS q b o cs 1 cap∧n≤cap∧cs.take n=nats .i64 xs∧xs.length=n∧Φ xs∧l'=[⟨b,o,cs,none⟩]
theorem AppW.mk {Φ:List Nat→Prop} {P:List Nat} {m:Nat} {u:Int} {q:Option Addr} {b o cap:Nat} {cs:List Value} {ok:Bool} (hg:GS q b o cs 1 cap) (hc:m≤cap) (hp:cs.take m=nats .i64 P) (hl:P.length=m) (h:Φ P):AppW Φ (.tuple #[.slice q m cap,.int .i64 u,.bool ok]) [⟨b,o,cs,none⟩]:=⟨u,ok,q,b,o,cs,cap,P,m,rfl,hg,hc,hp,hl,h,rfl⟩
theorem AppW.no {Φ:List Nat→Prop} {u:Int} {ok:Bool} (h:Φ []):AppW Φ (.tuple #[.slice none 0 0,.int .i64 u,.bool ok]) [⟨0,0,[],none⟩]:=⟨u,ok,none,0,0,[],0,[],0,rfl,⟨rfl,.inr ⟨rfl,rfl⟩⟩,Nat.le_refl _,rfl,rfl,h,rfl⟩
theorem preR_fst {n i:Nat} {cs:List Value} {xs:List (Nat × Nat × Nat)} (h:cs.take (n*3)=rows f3 xs) (hl:xs.length=n) (hi:i<n):cs[i*3]? =some (.int .i64 (((xs.getD i (0,0,0)).1:Nat):Int)):=by
  have h1:=preR_get f3_len (0,0,0) h hl hi
  have h2:((cs.drop (i*3)).take 3)[0]? =cs[i*3]? :=by rw[List.getElem?_take,if_pos Om,List.getElem?_drop,Nat.add_zero]
  rw[←h2,h1];rfl
section
variable {P:Program} {fn:Func} {Post:Value→List Seg→Prop} {l0 l r:List Seg} {w0:World} {n:Nat} {p rest:List Seg} {ρ:Fram}
theorem run_loadVarA {w:World} {vs:List Value} {t:TypeId} {b q:Nat} (hP:aggB P t=some true) (hz:sizeB P t=some vs.length) (h:∀j,j<vs.length→w.cell? ⟨b,q+j,none⟩=some (vs.getD j undef)):(loadVar t ⟨b,q,none⟩).run P w=.ok (.agg vs.toArray) w:=by
  have:=run_loadCellsFrom (P:=P) (w:=w) ⟨b,q,none⟩ vs.length 0 vs.toArray #[] (fun j hj=>by rw[add_addr,Nat.zero_add,h j hj];simp) Oi
  simp[loadVar,run_isAgg hP,run_size hz,loadCells,this]
theorem ret3c {t1 a t3 ty sz q:Nat} {v1 v3:Value} {sg:Seg} {vs:List Value} (is:List Nat) (i j:Nat) (hres:fn.results= #[.tmp t1,.cell a ty,.tmp t3]) (hv1:look t1 ρ=some v1) (hva:look a ρ=some (.pointer (some ⟨sg.b,q,none⟩))) (hs:nthS i l=some sg) (hP:aggB P ty=some true) (hz:sizeB P ty=some sz) (hq:q=sg.o+j) (hv:(sg.cs.drop j).take sz=vs) (hn:vs.length=sz) (hv3:look t3 ρ=some v3) (hp:pickS is l=some (p,rest)) (hPo:Post (.tuple #[v1,.agg vs.toArray,v3]) p):
    GQ ⟨n,l0,w0⟩ (bodyPost P fn (Ends Post l0 r w0)) .ret ρ l r:=
  fun ac w ha=>⟨ha.defers,_,by
    have hin:=ha.st.hl sg (nthS_mem _ _ _ hs)
    have e:=run_loadVarA (P:=P) (w:=w) (b:=sg.b) (q:=q) (vs:=vs) hP (by rw[hz,hn]) (fun i hi=>by
      subst hq
      rw[show sg.o+j+i=sg.o+(j+i) by omega]
      exact hin.1 (j+i) _ (seg_take hv hn Om))
    simp[results,hres,ha.fr _ _ hv1,ha.fr _ _ hva,ha.fr _ _ hv3,asAddr,e],ends_mk (ha.pick is hp) hPo⟩
end
section
variable {P:Program} {ρ:Fram} {o:Oper} {t:TypeId} {n sz:Nat}
theorem y_bda {zs vs:List Value} {pv:List (Nat × Value)} {ps:List (Nat × Operand)} (ho:o.op=.build t ps.toArray) (hps:evs ρ (ps.map (·.2))=some (pv.map (·.2))∧ps.map (·.1)=pv.map (·.1)) (hS:arrElem P t=some (n,sz)) (hZ:zeroC P t=some zs)
    (hf:Instr.fill (fun i=>some (i*sz,sz)) zs.toArray pv=some vs.toArray):OpY P ρ o (.agg vs.toArray):=by
  intro a ha w
  have hpv:ps.map (fun p=>(p.1,a.eval p.2))=pv:=by
    have h1:=evs_ok ha _ _ hps.1
    have h2:=hps.2
    clear hf hps ho
    induction ps generalizing pv with
    |nil=>cases pv with
      |nil=>rfl
      |cons=>simp at h2
    |cons p ps ih=>cases pv with
      |nil=>simp at h2
      |cons u us=>
        simp at h1 h2
        simp only[List.map_cons,List.cons.injEq]
        exact⟨by rw[h1.1,h2.1],ih (by simpa using h1.2) h2.2⟩
  unfold zeroC at hZ
  cases hi:P.info? t with
  |none=>simp[hi] at hZ
  |some i=>
    cases hzz:i.zero with
    |none=>simp[hi,hzz] at hZ
    |some zv=>
      simp[hi,hzz] at hZ
      have hzc:zv.cells=zs.toArray:=by apply Array.toList_inj.1;simpa using hZ
      unfold arrElem at hS
      cases hu:P.underlying t with
      |none=>simp[hu] at hS
      |some D=>
        cases D<;>simp[hu] at hS
        rename_i m e
        cases hs:sizeB P e with
        |none=>simp[hs] at hS
        |some s=>
          simp[hs] at hS
          obtain⟨rfl,rfl⟩:=hS
          have hzr:(zeroValue t).run P w=.ok zv w:=by simp[zeroValue,run_info hi,hzz]
          simp only[execOp,ho]
          have hpv':(ps.toArray.map fun (p:Nat × Operand)=>(p.1,a.eval p.2)).toList=pv:=by simpa using hpv
          simp only[Instr.build,Sem.run_bind,hzr,Result.andThen_ok,run_under hu,run_size hs,hpv',hzc,hf,Sem.run_pure]
end
def fD (c:Nat × Nat × Nat):List Value:=[.int .u16 ((c.2.2:Nat):Int),.int .u8 ((c.1:Nat):Int),.int .u8 ((c.2.1:Nat):Int)]
theorem fD_len (c:Nat × Nat × Nat):(fD c).length=3:=rfl
theorem fD_get0 {T:List (Nat × Nat × Nat)} {i:Nat} (h:i<T.length):(rows fD T)[i*3]? =some (.int .u16 (((T.getD i (0,0,0)).2.2:Nat):Int)):=rows_get (e:=0) fD_len (0,0,0) h Od
theorem fD_get1 {T:List (Nat × Nat × Nat)} {i:Nat} (h:i<T.length):(rows fD T)[i*3+1]? =some (.int .u8 (((T.getD i (0,0,0)).1:Nat):Int)):=rows_get fD_len (0,0,0) h Od
theorem fD_get2 {T:List (Nat × Nat × Nat)} {i:Nat} (h:i<T.length):(rows fD T)[i*3+2]? =some (.int .u8 (((T.getD i (0,0,0)).2.1:Nat):Int)):=rows_get fD_len (0,0,0) h Od
theorem fD_rep0 (n:Nat):(List.replicate n ([.int .u16 ((0:Nat):Int),.int .u8 ((0:Nat):Int),.int .u8 ((0:Nat):Int)]:List Value)).flatten=rows fD (List.replicate n (0,0,0)):=by
  induction n with
  |zero=>rfl
  |succ n ih=>simp only[List.replicate_succ,List.flatten_cons,rows,List.flatMap_cons] at ih ⊢;rw[ih];rfl
theorem splN_nil (W:List Nat) (j:Nat):splN W j []=W:=by simp[splN]
section
variable {P:Program} {K:Kx} {Q:Exit→Act→World→Prop} {ρ:Fram} {l r:List Seg} {o:Oper} {t n m cap q d:Nat} {k:IntKind}
theorem e_appIn {ca:Call} {q2:Option Addr} {c2 e by':Nat} {zs:List Value} {W ys:List Nat} {sg:Seg} (i j:Nat) (ho:o.op=.call ca) (hc:ca.callee=.builtin .append) (hargs:evs ρ ca.args.toList=some [.slice (some ⟨sg.b,q,none⟩) n cap,.slice q2 m c2]) (hat:ca.argTypes= #[t,t]) (hP:sliceE P t=some (e,zs,1,by')) (hz:zs.length=1)
    (hs:nthS i l=some sg) (hq:q=sg.o+j) (hcs:sg.cs=nats k W∧j+n+m≤W.length) (hsrc:Src l r q2 (nats k ys)) (hn:n+m≤cap∧ys.length=m) (hd:o.dst=some d) (hnd:Nat.blt d K.n=true):
    Eff P K ρ l r o (fun ρ' l'=>ρ'=(d,.slice (some ⟨sg.b,q,none⟩) (n+m) cap)::ρ∧l'=setS i ⟨sg.b,sg.o,nats k (splN W (j+n) ys),sg.sh⟩ l):=by
  intro a w ha nx Q hnx
  obtain⟨hroom,hlen⟩:=hn
  obtain⟨b,o',cs,sh⟩:=sg
  simp only at hcs hq hargs hs ⊢
  obtain⟨rfl,hj⟩:=hcs
  subst hq
  obtain⟨i',zv,hu,hi,hzz,hzs,hsz,hbyy⟩:=sliceE_parts hP
  have hszr:∀w,(sizeOf e).run P w=.ok 1 w:=run_size (by simp[sizeB,hi,hsz])
  have hargs':=args_of ha.fr hargs
  have h1':∀u ∈ nats k ys,u.oneCell'=true:=fun u hu=>List.all_eq_true.1 (nats_one ys) u hu
  have hexec:∀(u:Value) (w':World),(Builtin.append_ #[t,t] o.type #[.slice (some ⟨b,o'+j,none⟩) n cap,.slice q2 m c2]).run P w=.ok u w'→(execOp a.eval o).run P w=.ok (.value u) w':=fun u w' h=>by
    simp[execOp,ho,resolve,hc,hargs',invoke,builtin,hat,h]
  have hlenz:zv.cells.size=1:=by rw[←hz, ←hzs];simp
  have hnl:(nats k ys).length=m*1:=by simp[hlen]
  unfold Oper.wp
  have none_:m=0→nx (a.put (some d) (.slice (some ⟨b,o'+j,none⟩) (n+m) cap)) w:=fun hm=>by
    subst hm
    have e0:ys=[]:=List.eq_nil_of_length_eq_zero hlen
    subst e0
    refine hnx _ _ ⟨_,_,⟨rfl,rfl⟩,?_⟩
    rw[splN_nil,setS_same i _ l hs]
    exact ha.put hnd _
  by_cases hm0:m=0
  · have hfc:(Builtin.firstCells 1 0 (.slice q2 0 c2)).run P w=.ok #[] w:=by
      cases q2<;>simp[Builtin.firstCells,loadCells,loadCellsFrom]
    have hr:(Builtin.append_ #[t,t] o.type #[.slice (some ⟨b,o'+j,none⟩) n cap,.slice q2 0 c2]).run P w=.ok (.slice (some ⟨b,o'+j,none⟩) (n+0) cap) w:=by
      simp[Builtin.append_,run_under hu,hszr,Builtin.lenOf,show n≤cap by omega,hfc,storeCells]
    have hnone:=none_ hm0
    subst hm0
    rw[hexec _ _ hr]
    simp only[Oper.upon,hd]
    exact hnone
  · rcases hsrc.cells ha with hnil|⟨ad,had,hcells⟩
    · exact(hm0 (by rw[←hlen];have:=congrArg List.length hnil;simpa using this)).elim
    · subst had
      have hfc:=run_firstCells_some (P:=P) w 1 m ad m c2 (nats k ys) hnl hcells
      obtain⟨w',hw',hA⟩:=run_storeCells (P:=P) (nats k ys) 0 (j+n) l w ⟨b,o',nats k W,sh⟩ i b (o'+j+n) ha hs rfl (by show o'+j+n=o'+(j+n);omega) Oz h1'
      have hr:(Builtin.append_ #[t,t] o.type #[.slice (some ⟨b,o'+j,none⟩) n cap,.slice (some ad) m c2]).run P w=.ok (.slice (some ⟨b,o'+j,none⟩) (n+m) cap) w':=by
        simp[Builtin.append_,run_under hu,hszr,Builtin.lenOf,hroom,hfc,add_addr,hw']
      rw[hexec _ _ hr]
      simp only[Oper.upon,hd]
      refine hnx _ _ ⟨_,_,⟨rfl,rfl⟩,?_⟩
      have e1:=spl_nats (k:=k) W ys (j+n) Om
      rw[←e1]
      exact hA.put hnd _
end
end Go.Proofs.YtplgbfkpeampgaaGreatDoor
namespace Go.Proofs.YtplgbfkpeampgaaGreatDoor
def sub (text:List Nat) (a m:Nat):List Nat:=(text.drop a).take m
theorem sub_cons {text:List Nat} {a m:Nat} (h:a<text.length) (hm:0<m):sub text a m=text.getD a 0::sub text (a+1) (m-1):=by
  unfold sub
  obtain⟨m,rfl⟩:∃k,m=k+1:=⟨m-1,Om⟩
  rw[List.drop_eq_getElem_cons h,List.take_succ_cons]
  simp[h]
theorem sub_length {text:List Nat} {a m:Nat} (h:a+m≤text.length):(sub text a m).length=m:=by simp[sub];omega
section
variable {xs dt:List Nat} {k len L:Nat} {cd:Nat→Nat × Nat} {S:Nat→Prop} {s:BR} {text:List Nat} {a m:Nat}
theorem RdT.getS (h:RdT xs k len cd S s (sub text a m)) (hT:Tab dt L cd S) (hb:Bytes xs) (ham:a<text.length∧0<m) (hr:s.rd+L≤64∨s.off=0):
    ∃c n p,c=text.getD a 0∧s.val/2^(64-L)=p∧dt.getD p 0=n+256*c∧p<2^L∧c<256∧1≤n∧n≤L∧s.rd+n≤64∧tN cd (sub text a m)=n+tN cd (sub text (a+1) (m-1))∧RdT xs k len cd S (s.adv n) (sub text (a+1) (m-1)):=by
  rw[sub_cons ham.1 ham.2] at h ⊢
  obtain⟨n,p,h1,h2,h3,h4,h5,h6,h7,h8,h9⟩:=h.get hT hb hr
  exact⟨_,n,p,rfl,h1,h2,h3,h4,h5,h6,h7,h8,h9⟩
theorem RdT.leS {B:Nat} (h:RdT xs k len cd S s (sub text a m)) (hT:Tab dt L cd S) (hB:L≤B) (ham:a+m≤text.length):tN cd (sub text a m)≤B*m∧m≤tN cd (sub text a m):=by
  have:=tN_le' hT hB h.all
  rwa [sub_length ham] at this
theorem RdT.at_eq {a' m':Nat} (h:RdT xs k len cd S s (sub text a m)) (e1:a=a') (e2:m=m'):RdT xs k len cd S s (sub text a' m'):=e1▸e2▸h
end
def Row (ys text:List Nat) (a n:Nat):Prop:=∀q,q<n→ys.getD q 0=text.getD (a+q) 0
theorem Row.zero {ys text:List Nat} {a:Nat}:Row ys text a 0:=fun q h=>by omega
theorem getD_set {xs:List Nat} {i j v:Nat} (h:i<xs.length):(xs.set i v).getD j 0=if i=j then v else xs.getD j 0:=by
  simp only[List.getD_eq_getElem?_getD,List.getElem?_set]
  split
  · rename_i e;subst e;simp[h]
  · rfl
theorem Row.set {ys text:List Nat} {a n c i:Nat} (h:Row ys text a n) (hn:n<ys.length) (hi:i=n) (hc:c=text.getD (a+n) 0):Row (ys.set i c) text a (n+1):=fun q hq=>by
  subst hi
  rw[getD_set hn]
  split
  · rename_i e;subst e;exact hc
  · exact h q Om
def Got (ds text:List Nat) (a n:Nat):Prop:=∀p,a≤p→p<a+n→ds.getD p 0=text.getD p 0
theorem Got.zero {ds text:List Nat} {a:Nat}:Got ds text a 0:=fun p h1 h2=>by omega
theorem getD_splN {ds ys:List Nat} {j p:Nat} (h:j+ys.length≤ds.length):(splN ds j ys).getD p 0=if j≤p∧p<j+ys.length then ys.getD (p-j) 0 else ds.getD p 0:=by
  simp only[List.getD_eq_getElem?_getD,splN]
  by_cases h1:p<j
  · rw[if_neg Om,List.append_assoc,List.getElem?_append_left Oz,List.getElem?_take,if_pos h1]
  · by_cases h2:p<j+ys.length
    · rw[if_pos ⟨Om,h2⟩,List.getElem?_append_left Oz,List.getElem?_append_right Oz]
      congr 2;simp;omega
    · rw[if_neg Om,List.getElem?_append_right Oz,List.getElem?_drop]
      congr 2;simp;omega
theorem Got.keep {ds ys text:List Nat} {a n j a' m:Nat} (h:Got ds text a n) (hr:Row ys text a' m) (hj:j+m≤ds.length∧ys.length=m∧a'=j):Got (splN ds j ys) text a n:=fun p h1 h2=>by
  rw[getD_splN Om]
  split
  · rename_i e
    rw[hr (p-j) Om];congr 1;omega
  · exact h p h1 h2
theorem Got.more {ds ys text:List Nat} {a n j a' m:Nat} (h:Got ds text a n) (hr:Row ys text a' m) (hj:j+m≤ds.length∧ys.length=m∧a'=j∧a+n=j):Got (splN ds j ys) text a (n+m):=fun p h1 h2=>by
  rw[getD_splN Om]
  split
  · rename_i e
    rw[hr (p-j) Om];congr 1;omega
  · exact h p h1 Om
theorem Got.set {ds text:List Nat} {a n p c:Nat} (h:Got ds text a n) (hp:p<ds.length) (hc:c=text.getD p 0):Got (ds.set p c) text a n:=fun q h1 h2=>by
  rw[getD_set hp]
  split
  · rename_i e;subst e;exact hc
  · exact h q h1 h2
theorem Got.put {ds text:List Nat} {a n p c:Nat} (h:Got ds text a n) (hp:p<ds.length) (hc:c=text.getD p 0) (he:p=a+n):Got (ds.set p c) text a (n+1):=fun q h1 h2=>by
  rw[getD_set hp]
  split
  · rename_i e;subst e;exact hc
  · exact h q h1 Om
theorem Got.at_eq {ds text:List Nat} {a n a' n':Nat} (h:Got ds text a n) (e1:a=a') (e2:n=n'):Got ds text a' n':=e1▸e2▸h
theorem Row.take {ys text:List Nat} {a n m:Nat} (h:Row ys text a n) (hm:m≤n) (hl:n≤ys.length):Row ((ys.drop 0).take m) text a m∧((ys.drop 0).take m).length=m:=by
  refine⟨fun q hq=>?_,Oz⟩
  rw[←h q Om]
  simp[List.getD_eq_getElem?_getD,List.getElem?_take,hq]
theorem Row.at_eq {ys text:List Nat} {a n a' n':Nat} (h:Row ys text a n) (e1:a=a') (e2:n=n'):Row ys text a' n':=e1▸e2▸h
theorem all_got {ds text:List Nat} (hl:ds.length=text.length) (h:∀p,p<text.length→ds.getD p 0=text.getD p 0):ds=text:=by
  apply List.ext_getElem hl
  intro i h1 h2
  have:=h i h2
  simpa [h1,h2] using this
theorem got4 {ds text:List Nat} {ev m3:Nat} (hl:ds.length=text.length) (hm:text.length=3*ev+m3) (h0:Got ds text (ev*0) ev) (h1:Got ds text (ev*1) ev) (h2:Got ds text (ev*2) ev) (h3:Got ds text (ev*3) m3):ds=text:=by
  refine all_got hl fun p hp=>?_
  rcases Nat.lt_or_ge p ev with h|h
  · exact h0 p Om Om
  rcases Nat.lt_or_ge p (2*ev) with h|h
  · exact h1 p Om Om
  rcases Nat.lt_or_ge p (3*ev) with h|h
  · exact h2 p Om Om
  · exact h3 p Om Om
theorem jt {x y n:Nat} (h:x=n%256∧y=n/256):x|||y*2^8=n:=by
  rw[or_shift' (n:=8) Om];omega
section
variable {P:Program} {K:Kx} {Q:Exit→Act→World→Prop} {ρ:Fram} {l r:List Seg} {L rest:List Oper} {o:Oper}
theorem At.split {a:Act} {w:World} {b o o':Nat} {xs ys:List Value} {sh:Option (TypeId × Nat)} (h:At K ρ (⟨b,o,xs++ys,sh⟩::l) r a w) (ho:o'=o+xs.length):At K ρ (⟨b,o,xs,none⟩::⟨b,o',ys,none⟩::l) r a w:=by
  subst ho
  have hin:=h.st.hl _ List.mem_cons_self
  have pc:=List.pairwise_cons.1 h.st.pw
  have hx:∀b' j:Nat,(⟨b,o,xs,none⟩:Seg).has b' j→(⟨b,o,xs++ys,sh⟩:Seg).has b' j:=fun b' j ⟨h1,h2,h3⟩=>⟨h1,h2,by simp at h3 ⊢;omega⟩
  have hy:∀b' j:Nat,(⟨b,o+xs.length,ys,none⟩:Seg).has b' j→(⟨b,o,xs++ys,sh⟩:Seg).has b' j:=fun b' j ⟨h1,h2,h3⟩=>⟨h1,by simp at h2 ⊢;omega,by simp at h2 h3 ⊢;omega⟩
  refine⟨h.size,h.defers,h.fr,h.keeps,⟨?_,h.st.hr,?_,?_⟩,?_⟩
  · intro u hu
    rcases List.mem_cons.1 hu with h'|hu
    · subst h'
      refine⟨fun j v hj=>hin.1 j v ?_,fun j hj=>hin.2.1 j (by simp at hj ⊢;omega),fun x hx=>by cases hx⟩
      have:j<xs.length:=(List.getElem?_eq_some_iff.1 hj).1
      show(xs++ys)[j]? =_
      rw[List.getElem?_append_left this];exact hj
    · rcases List.mem_cons.1 hu with h'|hu
      · subst h'
        refine⟨fun j v hj=>?_,fun j hj=>?_,fun x hx=>by cases hx⟩
        · have:=hin.1 (xs.length+j) v (by
            show(xs++ys)[xs.length+j]? =_
            rw[List.getElem?_append_right Om]
            simpa using hj)
          rw[←Nat.add_assoc] at this
          exact this
        · have:=hin.2.1 (xs.length+j) (by simp at hj ⊢;omega)
          rw[←Nat.add_assoc] at this
          exact this
      · exact h.st.hl u (List.mem_cons_of_mem _ hu)
  · refine List.Pairwise.cons (fun u hu=>?_) (List.Pairwise.cons (fun u hu=>?_) pc.2)
    · rcases List.mem_cons.1 hu with h'|hu
      · subst h'
        intro b' j h1 h2
        have a1:=h1.2.2;have a2:=h2.2.1
        simp at a1 a2;omega
      · exact fun b' j h1 h2=>pc.1 u hu b' j (hx b' j h1) h2
    · exact fun b' j h1 h2=>pc.1 u hu b' j (hy b' j h1) h2
  · intro u hu t ht
    rcases List.mem_cons.1 hu with h'|hu
    · subst h';exact fun b' j h1 h2=>h.st.lr _ List.mem_cons_self t ht b' j (hx b' j h1) h2
    · rcases List.mem_cons.1 hu with h'|hu
      · subst h';exact fun b' j h1 h2=>h.st.lr _ List.mem_cons_self t ht b' j (hy b' j h1) h2
      · exact h.st.lr u (List.mem_cons_of_mem _ hu) t ht
  · intro u hu b' j hh
    rcases List.mem_cons.1 hu with h'|hu
    · subst h';exact h.own _ List.mem_cons_self b' j (hx b' j hh)
    · rcases List.mem_cons.1 hu with h'|hu
      · subst h';exact h.own _ List.mem_cons_self b' j (hy b' j hh)
      · exact h.own u (List.mem_cons_of_mem _ hu) b' j hh
theorem cut2 {b o o':Nat} {cs xs ys:List Value} {sh:Option (TypeId × Nat)} (i:Nat) (hi:nthS i l=some ⟨b,o,cs,sh⟩) (hc:cs=xs++ys) (ho:o'=o+xs.length) {a:Act} {w:World} (h:At K ρ l r a w):At K ρ (⟨b,o,xs,none⟩::⟨b,o',ys,none⟩::l.eraseIdx i) r a w:=by
  have hp:l.Perm (⟨b,o,cs,sh⟩::l.eraseIdx i):=by
    have h1:=setS_erase i ⟨b,o,cs,sh⟩ _ l hi
    rwa [setS_same i _ l hi] at h1
  subst hc
  exact(h.perm hp).split ho
theorem G.cut2 {c:Code} {b o o':Nat} {cs xs ys:List Value} {sh:Option (TypeId × Nat)} (i:Nat) (hi:nthS i l=some ⟨b,o,cs,sh⟩) (hc:cs=xs++ys) (ho:o'=o+xs.length) (h:G P K Q c ρ (⟨b,o,xs,none⟩::⟨b,o',ys,none⟩::l.eraseIdx i) r):G P K Q c ρ l r:=
  fun a w ha=>h a w (YtplgbfkpeampgaaGreatDoor.cut2 i hi hc ho ha)
theorem GQ.lists {e:Exit} {l':List Seg} (hl:l=l') (h:GQ K Q e ρ l' r):GQ K Q e ρ l r:=hl▸h
theorem G.lists {c:Code} {l':List Seg} (hl:l=l') (h:G P K Q c ρ l' r):G P K Q c ρ l r:=hl▸h
end
theorem nats_whole {k:IntKind} {xs:List Nat} {n:Nat} (h:xs.length=n):((nats k xs).drop 0).take n=nats k xs:=by
  rw[List.drop_zero,List.take_of_length_le Oz]
theorem nats_rep_add (k:IntKind) (m n x:Nat):nats k (List.replicate (m+n) x)=nats k (List.replicate m x)++nats k (List.replicate n x):=by
  simp[nats, ←List.replicate_append_replicate]
end Go.Proofs.YtplgbfkpeampgaaGreatDoor
namespace Go.Proofs.YtplgbfkpeampgaaGreatDoor
open Go
section
variable {P:Program} {K:Kx} {Q:Exit→Act→World→Prop} {ρ:Fram} {l r:List Seg} {L rest:List Oper} {o:Oper}
theorem At.splitS {a:Act} {w:World} {b o o':Nat} {xs ys:List Value} {sh:Option (TypeId × Nat)} (h:At K ρ (⟨b,o,xs++ys,sh⟩::l) r a w) (ho:o'=o+xs.length):At K ρ (⟨b,o,xs,sh⟩::⟨b,o',ys,none⟩::l) r a w:=by
  subst ho
  have hin:=h.st.hl _ List.mem_cons_self
  have pc:=List.pairwise_cons.1 h.st.pw
  have hx:∀b' j:Nat,(⟨b,o,xs,sh⟩:Seg).has b' j→(⟨b,o,xs++ys,sh⟩:Seg).has b' j:=fun b' j ⟨h1,h2,h3⟩=>⟨h1,h2,by simp at h3 ⊢;omega⟩
  have hy:∀b' j:Nat,(⟨b,o+xs.length,ys,none⟩:Seg).has b' j→(⟨b,o,xs++ys,sh⟩:Seg).has b' j:=fun b' j ⟨h1,h2,h3⟩=>⟨h1,by simp at h2 ⊢;omega,by simp at h2 h3 ⊢;omega⟩
  refine⟨h.size,h.defers,h.fr,h.keeps,⟨?_,h.st.hr,?_,?_⟩,?_⟩
  · intro u hu
    rcases List.mem_cons.1 hu with h'|hu
    · subst h'
      refine⟨fun j v hj=>hin.1 j v ?_,fun j hj=>hin.2.1 j (by simp at hj ⊢;omega),fun x hx=>hin.2.2 x hx⟩
      have:j<xs.length:=(List.getElem?_eq_some_iff.1 hj).1
      show(xs++ys)[j]? =_
      rw[List.getElem?_append_left this];exact hj
    · rcases List.mem_cons.1 hu with h'|hu
      · subst h'
        refine⟨fun j v hj=>?_,fun j hj=>?_,fun x hx=>by cases hx⟩
        · have:=hin.1 (xs.length+j) v (by
            show(xs++ys)[xs.length+j]? =_
            rw[List.getElem?_append_right Om]
            simpa using hj)
          rw[←Nat.add_assoc] at this
          exact this
        · have:=hin.2.1 (xs.length+j) (by simp at hj ⊢;omega)
          rw[←Nat.add_assoc] at this
          exact this
      · exact h.st.hl u (List.mem_cons_of_mem _ hu)
  · refine List.Pairwise.cons (fun u hu=>?_) (List.Pairwise.cons (fun u hu=>?_) pc.2)
    · rcases List.mem_cons.1 hu with h'|hu
      · subst h'
        intro b' j h1 h2
        have a1:=h1.2.2;have a2:=h2.2.1
        simp at a1 a2;omega
      · exact fun b' j h1 h2=>pc.1 u hu b' j (hx b' j h1) h2
    · exact fun b' j h1 h2=>pc.1 u hu b' j (hy b' j h1) h2
  · intro u hu t ht
    rcases List.mem_cons.1 hu with h'|hu
    · subst h';exact fun b' j h1 h2=>h.st.lr _ List.mem_cons_self t ht b' j (hx b' j h1) h2
    · rcases List.mem_cons.1 hu with h'|hu
      · subst h';exact fun b' j h1 h2=>h.st.lr _ List.mem_cons_self t ht b' j (hy b' j h1) h2
      · exact h.st.lr u (List.mem_cons_of_mem _ hu) t ht
  · intro u hu b' j hh
    rcases List.mem_cons.1 hu with h'|hu
    · subst h';exact h.own _ List.mem_cons_self b' j (hx b' j hh)
    · rcases List.mem_cons.1 hu with h'|hu
      · subst h';exact h.own _ List.mem_cons_self b' j (hy b' j hh)
      · exact h.own u (List.mem_cons_of_mem _ hu) b' j hh
theorem cut2S {b o o':Nat} {cs xs ys:List Value} {sh:Option (TypeId × Nat)} (i:Nat) (hi:nthS i l=some ⟨b,o,cs,sh⟩) (hc:cs=xs++ys) (ho:o'=o+xs.length) {a:Act} {w:World} (h:At K ρ l r a w):At K ρ (⟨b,o,xs,sh⟩::⟨b,o',ys,none⟩::l.eraseIdx i) r a w:=by
  have hp:l.Perm (⟨b,o,cs,sh⟩::l.eraseIdx i):=by
    have h1:=setS_erase i ⟨b,o,cs,sh⟩ _ l hi
    rwa [setS_same i _ l hi] at h1
  subst hc
  exact(h.perm hp).splitS ho
theorem G.cut2S {c:Code} {b o o':Nat} {cs xs ys:List Value} {sh:Option (TypeId × Nat)} (i:Nat) (hi:nthS i l=some ⟨b,o,cs,sh⟩) (hc:cs=xs++ys) (ho:o'=o+xs.length) (h:G P K Q c ρ (⟨b,o,xs,sh⟩::⟨b,o',ys,none⟩::l.eraseIdx i) r):G P K Q c ρ l r:=
  fun a w ha=>h a w (YtplgbfkpeampgaaGreatDoor.cut2S i hi hc ho ha)
end
def fa0ok (P:Program) (e:Nat) (i:TypeInfo) (fl:Field):Bool:=decide (i.size=0∧P.cellsOf e≠0∧byteOfCell P P.depth e 0=some 0∧fl.offset<P.cellsOf e∧byteOfCell P P.depth e fl.offset=some fl.byteOffset)
def fieldOff0 (P:Program) (s f e:Nat):Option Nat:=
  match P.underlying s with
  |some (.struct fs)=>match fs[f]? with
    |some fl=>match P.info? fl.type with
      |some i=>match fa0ok P e i fl with
        |true=>some fl.offset
        |false=>none
      |none=>none
    |none=>none
  |_=>none
section
variable {P:Program} {ρ:Fram} {l r:List Seg} {o:Oper} {s f n:Nat} {x:Operand}
theorem r_fa0 {sg:Seg} {e c:Nat} (i:Nat) (hs:nthS i l=some sg) (hsh:sg.sh=some (e,c)) (ho:o.op=.fieldAddr s x f) (hx:ev ρ x=some (.pointer (some ⟨sg.b,0,none⟩))) (hP:fieldOff0 P s f e=some n):OpR P ρ l r o (.pointer (some ⟨sg.b,n,none⟩)):=fun ac w ha hst=>by
  have hw:=(hst.hl sg (nthS_mem _ _ _ hs)).2.2 _ hsh
  unfold fieldOff0 at hP
  cases hu:P.underlying s with
  |none=>simp[hu] at hP
  |some D=>
    cases D<;>simp[hu] at hP
    rename_i fs
    cases hf:fs[f]? with
    |none=>simp[hf] at hP
    |some fl=>
      simp only[hf] at hP
      cases hi:P.info? fl.type with
      |none=>simp[hi] at hP
      |some i=>
        simp only[hi] at hP
        cases hc:fa0ok P e i fl with
        |false=>simp[hc] at hP
        |true=>
          simp only[hc] at hP
          obtain⟨h0,h1,h2,h3,h4⟩:=of_decide_eq_true hc
          have hn:=Option.some.inj hP
          subst hn
          simp[execOp,ho,ev_ok ha hx,Instr.fieldAt,run_under hu,hf,Instr.sureAddr,fieldPlace,partAt,byteOf,noView,viewAt,sizeOf,run_info hi,h0,h1,h2,h4,hw,Nat.mod_eq_of_lt h3,Nat.div_eq_of_lt h3]
end
theorem inW_front {b o:Nat} {cs ds:List Value} {sh:Option (TypeId × Nat)} {n:Nat} {w:World} (h:(⟨b,o,cs,sh⟩:Seg).inW w) (hd:cs.take n=ds):(⟨b,o,ds,none⟩:Seg).inW w:=by
  subst hd
  refine⟨fun j v hj=>h.1 j v ?_,fun j hj=>h.2.1 j ?_,fun x hx=>by cases hx⟩
  · have h1:(cs.take n)[j]? =some v:=hj
    have hlt:j<(cs.take n).length:=(List.getElem?_eq_some_iff.1 h1).1
    rw[List.length_take] at hlt
    rwa [List.getElem?_take,if_pos Om] at h1
  · have:j<(cs.take n).length:=hj
    rw[List.length_take] at this
    show j<cs.length
    omega
theorem Con.front {P:Program} {f:FuncId} {args:List Value} {l r:List Seg} {Post:Value→List Seg→Prop} {b o n:Nat} {cs ds:List Value} {sh:Option (TypeId × Nat)} (hd:cs.take n=ds) (h:Con P f args l (⟨b,o,ds,none⟩::r) Post):Con P f args l (⟨b,o,cs,sh⟩::r) Post:=by
  have hsub:∀b' j:Nat,(⟨b,o,ds,none⟩:Seg).has b' j→(⟨b,o,cs,sh⟩:Seg).has b' j:=fun b' j ⟨h1,h2,h3⟩=>⟨h1,h2,by
    subst hd
    have h4:j<o+(cs.take n).length:=h3
    rw[List.length_take] at h4
    show j<o+cs.length
    omega⟩
  refine⟨h.can,fun w hst=>?_⟩
  have hst':St l (⟨b,o,ds,none⟩::r) w:=⟨hst.hl,fun s hs=>by
    rcases List.mem_cons.1 hs with h'|h'
    · subst h';exact inW_front (hst.hr _ List.mem_cons_self) hd
    · exact hst.hr s (List.mem_cons_of_mem _ h'),hst.pw,fun s hs t ht=>by
    rcases List.mem_cons.1 ht with h'|h'
    · subst h';exact fun b' j h1 h2=>hst.lr s hs _ List.mem_cons_self b' j h1 (hsub b' j h2)
    · exact hst.lr s hs t (List.mem_cons_of_mem _ h')⟩
  refine(h.run w hst').mono fun e w' ⟨v,l',h1,h2,h3,h4,h5⟩=>⟨v,l',h1,h2,h3,⟨h4.hl,?_,h4.pw,?_⟩,h5⟩
  · intro s hs
    exact(hst.hr s hs).keep h3 fun t ht=>hst.lr t ht s hs
  · intro s hs t ht
    intro b' j h6 h7
    rcases h5 s hs b' j h6 with ⟨u,hu,hu2⟩|hge
    · exact hst.lr u hu t ht b' j hu2 h7
    · have:=(hst.hr t ht).lt h7;omega
theorem Con.swapR {P:Program} {f:FuncId} {args:List Value} {l r:List Seg} {s t:Seg} {Post:Value→List Seg→Prop} (h:Con P f args l (s::t::r) Post):Con P f args l (t::s::r) Post:=by
  have m:∀x,x ∈ s::t::r↔x ∈ t::s::r:=fun x=>by simp only[List.mem_cons];constructor<;>(rintro (h|h|h)<;>simp[h])
  refine⟨h.can,fun w hst=>?_⟩
  refine(h.run w ⟨hst.hl,fun x hx=>hst.hr x ((m x).1 hx),hst.pw,fun x hx y hy=>hst.lr x hx y ((m y).1 hy)⟩).mono fun e w' ⟨v,l',h1,h2,h3,h4,h5⟩=>⟨v,l',h1,h2,h3,⟨h4.hl,fun x hx=>h4.hr x ((m x).2 hx),h4.pw,fun x hx y hy=>h4.lr x hx y ((m y).2 hy)⟩,h5⟩
section
variable {P:Program} {ρ:Fram} {o:Oper} {x y:Operand} {ty ty':TypeId}
theorem wrap32 (w:Nat):(BitVec.ofInt 32 (IntKind.wrap .i32 ((w:Nat):Int))).toNat=w%2^32:=by
  rw[BitVec.toNat_ofInt]
  simp only[IntKind.wrap,IntKind.bits,IntKind.signed]
  simp
  omega
theorem andW_i32 {w m n:Nat} (ho:o.op=.binOp .and ty x y ty') (hx:ev ρ x=some (.int .i32 (IntKind.wrap .i32 ((w:Nat):Int)))) (hy:ev ρ y=some (.int .i32 ((m:Nat):Int))) (hm:m=2^n-1) (hn:n≤31):OpY P ρ o (.int .i32 ((w%2^n:Nat):Int)):=(y_and0 ho hx hy).cast (by
  have hp:(2:Nat)^n≤2^31:=Nat.pow_le_pow_right Om hn
  have hq:=Nat.pow_pos (n:=n) (show 0<2 by omega)
  have hlt:=Nat.mod_lt w hq
  have h2:(BitVec.ofInt 32 ((m:Nat):Int)).toNat=m:=bv_nat 32 m Om
  rw[BitVec.toNat_and,show IntKind.bits .i32=32 from rfl,wrap32,h2,hm,Nat.and_two_pow_sub_one_eq_mod,Nat.mod_mod_of_dvd _ (Nat.pow_dvd_pow 2 Om)]
  rw[IntWalk.i32_in _ ⟨Om,Om⟩])
end
section
variable {P:Program} {K:Kx} {Q:Exit→Act→World→Prop} {ρ:Fram} {l r:List Seg} {L rest:List Oper} {o:Oper} {t:TypeId} {x:Operand}
theorem e_boxN {d n:Nat} {cs:List Value} (ho:o.op=.box t x) (hx:ev ρ x=some (.agg cs.toArray)) (hl:cs.length=n) (hd:o.dst=some d) (hn:Nat.blt d K.n=true):
    Eff P K ρ l r o (fun ρ' l'=>∃b,ρ'=(d,.pointer (some ⟨b,0,none⟩))::ρ∧l'=⟨b,0,cs,some (t,n)⟩::l):=hl▸e_boxA ho hx hd hn
end
section
variable {P:Program} {ρ:Fram} {o:Oper} {x y z u:Operand} {t:TypeId} {k k' k'':IntKind} {b q len cap lo hi m sz:Nat}
theorem y_sl3 {q':Nat} (ho:o.op=.slice t x (some y) (some z) (some u)) (hx:ev ρ x=some (.slice (some ⟨b,q,none⟩) len cap)) (hy:ev ρ y=some (.int k (lo:Nat))) (hz:ev ρ z=some (.int k' (hi:Nat))) (hu':ev ρ u=some (.int k'' (m:Nat))) (hP:sliceElem P t=some sz) (h:lo≤hi∧hi≤m∧m≤cap∧lo<m) (hq:q+lo*sz=q'):OpY P ρ o (.slice (some ⟨b,q',none⟩) (hi-lo) (m-lo)):=by
  subst hq
  intro ac ha w
  unfold sliceElem at hP
  cases hu:P.underlying t with
  |none=>simp[hu] at hP
  |some D=>
    cases D<;>simp[hu] at hP
    simp[execOp,ho,ev_ok ha hx,ev_ok ha hy,ev_ok ha hz,ev_ok ha hu',Instr.sliceAt,run_under hu,Instr.slice,Instr.sliceBounds,Instr.sliceBound,asIntOf,run_size hP,h.1,h.2.1,h.2.2.1,add_addr,show¬m=lo by omega]
end
section
variable {P:Program} {K:Kx} {Q:Exit→Act→World→Prop} {ρ:Fram} {l r:List Seg} {L rest:List Oper} {o:Oper} {d:Nat}
theorem GL.skipU {j t:Nat} {b:Bool} (hg:o.guard=some (j,b)) (hj:(nth j L).bind (·.dst)=some t) (hl:look t ρ=some undef) (hd:o.dst=some d) (hn:Nat.blt d K.n=true) (k:GL P K Q L rest ((d,undef)::ρ) l r):GL P K Q L (o::rest) ρ l r:=by
  intro a w ha
  have hw:Region.wanted o (yielded L.toArray a.tmps)=false:=by
    unfold Region.wanted
    rw[hg]
    cases hq:nth j L with
    |none=>simp[hq] at hj
    |some oj=>
      have h1:L.toArray[j]? =some oj:=nth_arr hq
      simp only[hq,Option.bind_some] at hj
      have h2:=ha.fr t undef hl
      simp[yielded,h1,hj,h2,undef]
  unfold wpList
  rw[if_neg (by rw[hw];simp),hd]
  exact k _ _ (ha.put hn undef)
end
end Go.Proofs.YtplgbfkpeampgaaGreatDoor
namespace Go.Proofs.YtplgbfkpeampgaaGreatDoor
theorem fse_R_lt {T:List Cell} {text A:List Nat} (hF:FseT 6 T text A):(A.getD 0 0*2^6+A.getD 1 0)*2^fN T A+fR T A<2^(12+fN T A):=by
  have h1:fR T A<2^fN T A:=by have:=FseT.lt_ hF _ 0 rfl;rwa [List.drop_zero] at this
  have ha:A.getD 0 0<64:=hF.at_ 0
  have hb:A.getD 1 0<64:=hF.at_ 1
  have h2:(A.getD 0 0*2^6+A.getD 1 0+1)*2^fN T A≤2^12*2^fN T A:=Nat.mul_le_mul_right _ Om
  rw[Nat.add_mul _ 1,Nat.one_mul] at h2
  rw[Nat.pow_add]
  omega
theorem FsePacked.last {T:List Cell} {text ys:List Nat} (h:FsePacked T text ys):0<ys.length∧ys.getD (ys.length-1) 0≠0∧Bytes ys:=by
  obtain⟨A,h1,h2,h3,h4⟩:=h.ex
  have:=(Pos.ofPacked (k:=0) (t:=4) h2 Om rfl (fse_R_lt h1) h4).2
  rw[Nat.zero_add, ←h3] at this
  exact⟨Om,Om,h2⟩
theorem DescrB.bytes {cs H:List Nat} (h:DescrB cs H):Bytes H:=by obtain⟨E,h1,h2,h3⟩:=h.ex;exact h2
theorem DescrB.low {cs H B:List Nat} (h:DescrB cs H) (hB:Bytes B):∃E,Descr 64 cs E∧Low (H++B) (H++B).length 0 (lowB 1 4++E)∧H.length=(4+E.length+7)/8:=by
  obtain⟨E,h1,h2,h3,h4,h5⟩:=h.ex
  have hb:Bytes (H++B):=fun x hx=>(List.mem_append.1 hx).elim (h2 x) (hB x)
  have hle:(lowB 1 4++E).length=4+E.length:=by rw[List.length_append,lowB_length]
  refine⟨E,h1,Low.ofTail ?_ ?_,h3⟩
  · rw[hle,List.length_append,h3];omega
  · have e1:=tailV_mod hb 0 (m:=H.length) (n:=(H++B).length) (by rw[List.length_append];omega)
    have e2:tailV (H++B) 0 H.length=tailV H 0 H.length:=tailV_congr _ fun i hi=>by simp[List.getD_eq_getElem?_getD,List.getElem?_append_left hi]
    rw[e2,h3,h4] at e1
    have h6:Bits (lowB 1 4++E):=Bits.app (lowB_bits 1 4) h1.bits
    have hd:2^(lowB 1 4++E).length∣2^(8*((4+E.length+7)/8)):=Nat.pow_dvd_pow 2 (by rw[hle];omega)
    rw[←Nat.mod_mod_of_dvd _ hd,e1,Nat.mod_eq_of_lt (lowV_lt h6)]
theorem CountsB.front {cs P c':List Nat} (hl:cs.length≤256) (ha:AllLe cs 63) (h:cs=P++c') (hs:P.sum=64):CountsB 6 P:=by
  subst h
  exact⟨.inr rfl,hs,by rw[List.length_append] at hl;omega,fun c hc=>Nat.lt_succ_of_le (ha c (List.mem_append_left _ hc))⟩
def TreeAny (xs:List Nat):Prop:=128≤xs.getD 0 0∨∃cs ws b,xs=[b.length]++b∧b.length≤127∧cs.length=13∧AllLe cs 63∧FseBlk cs ws b
theorem TreeN.any {ls xs:List Nat} (h:TreeN ls xs) (h1:∀L la,HW ls L la→0<la):TreeAny xs:=by
  obtain⟨L,la,h2,h3,h4⟩:=h.ex
  have:=h1 L la h2
  exact .inl (by rw[h4];show 128≤127+la;omega)
theorem TreeP.any {ls xs:List Nat} (h:TreeP ls xs):TreeAny xs:=by
  obtain⟨L,la,cs,b,h1,h2,h3,h4,h5,h6⟩:=h.ex
  exact .inr ⟨cs,_,b,h6,h5,h2,h3,h4⟩
theorem FseBlk.bytes {cs ws b:List Nat} (h:FseBlk cs ws b):Bytes b:=by
  obtain⟨H,B,e,h1,h2⟩:=h.ex
  have hB:=h2.last.2.2
  have hH:=h1.bytes
  exact e▸fun x hx=>(List.mem_append.1 hx).elim (hH x) (hB x)
theorem FseBlk.read {cs ws b:List Nat} (h:FseBlk cs ws b):∃E,Descr 64 cs E∧Low b b.length 0 (lowB 1 4++E)∧0<(b.drop ((4+E.length+7)/8)).length∧(b.drop ((4+E.length+7)/8)).getD ((b.drop ((4+E.length+7)/8)).length-1) 0≠0∧FsePacked (tableF 6 cs) ws (b.drop ((4+E.length+7)/8)):=by
  obtain⟨H,B,e,h1,h2⟩:=h.ex
  have hB:=h2.last
  obtain⟨E,h3,h4,h5⟩:=h1.low hB.2.2
  have e2:b.drop ((4+E.length+7)/8)=B:=by rw[e, ←h5,List.drop_append_of_le_length (Nat.le_refl _),List.drop_length,List.nil_append]
  refine⟨E,h3,?_,?_,?_,?_⟩
  · rw[e];exact h4
  · rw[e2];exact hB.1
  · rw[e2];exact hB.2.1
  · rw[e2];exact h2
theorem cut1 {b:List Nat} {n:Nat} (h:n=b.length):(([n]++b).drop 1).take (1+n-1)=b:=by
  subst h
  simp
structure FseOK (T:List Cell):Prop where
  len:T.length=64
  cell:∀u,u<64→1≤(T.getD u (0,0,0)).2.1∧(T.getD u (0,0,0)).2.1≤6∧(T.getD u (0,0,0)).2.2+2^(T.getD u (0,0,0)).2.1≤64∧(T.getD u (0,0,0)).1<256
theorem FseOK.of {cs:List Nat} (hC:CountsB 6 cs) (h:AllLe cs 31):FseOK (tableF 6 cs):=by
  refine⟨by rw[tableF_length],fun u hu=>?_⟩
  obtain⟨s,k,e,hs,hl,hk,h1,h2,h3,h4,h5,h6⟩:=tableF_get hC (u:=u) hu
  have hn:=h.at_ s
  have:=bits_pos (log:=6) h1 h3 Om
  have hcl:=hC.len
  rw[e]
  exact⟨this,h4,h6,by show s<256;omega⟩
theorem RdF.more {xs text A:List Nat} {k len i:Nat} {T:List Cell} {s:BR} (h:RdF xs k len T A i s) (hT:FseT 6 T text A) (hp:0<8*s.off+(64-s.rd)):i+2<text.length:=by
  refine Classical.byContradiction fun hn=>?_
  have h1:=(fN_end (T:=T) (at_:=A) (i:=i) (by rw[hT.len];omega)).1
  have h2:=h.pos.n
  omega
theorem RdF.none {xs text A:List Nat} {k len i:Nat} {T:List Cell} {s:BR} (h:RdF xs k len T A i s) (hT:FseT 6 T text A) (hO:FseOK T):(64≤s.rd∧s.off=0)↔text.length≤i+2:=by
  have h2:=h.pos.n
  have h3:=h.pos.rd
  constructor
  · intro ⟨h4,h5⟩
    refine Classical.byContradiction fun hn=>?_
    have e:=(fN_cons (T:=T) (at_:=A) (i:=i) (by rw[hT.len];omega)).1
    have h6:=(hO.cell _ (hT.at_ i)).1
    omega
  · intro h4
    have h1:=(fN_end (T:=T) (at_:=A) (i:=i) (by rw[hT.len];exact h4)).1
    omega
theorem RdF.step {xs text A:List Nat} {k len i:Nat} {T:List Cell} {s:BR} (h:RdF xs k len T A i s) (hT:FseT 6 T text A) (hO:FseOK T) (hb:Bytes xs) (hi:i+2<text.length) (hr:s.rd+6≤64∨s.off=0):
    s.rd+(T.getD (A.getD i 0) (0,0,0)).2.1≤64∧(T.getD (A.getD i 0) (0,0,0)).2.2+s.fbits (T.getD (A.getD i 0) (0,0,0)).2.1=A.getD (i+2) 0∧RdF xs k len T A (i+1) (s.fskip (T.getD (A.getD i 0) (0,0,0)).2.1)∧(s.fskip (T.getD (A.getD i 0) (0,0,0)).2.1).rd≤s.rd+6:=by
  have hc:=hO.cell _ (hT.at_ i)
  obtain⟨h1,h2,h3⟩:=h.bits hT hb hi Om hc.1 (hr.imp Om id)
  exact⟨h1,h2,h3,by show(s.rd+_)%256≤_;omega⟩
theorem RdF.ffast {xs A:List Nat} {k len i:Nat} {T:List Cell} {s:BR} (h:RdF xs k len T A i s) (hb:Bytes xs) (ho:32≤s.rd→4≤s.off):RdF xs k len T A i (s.ffast xs k)∧(s.ffast xs k).rd≤32∧s.off≤(s.ffast xs k).off+4∧(s.ffast xs k).off≤s.off:=by
  obtain⟨h1,h2⟩:=h.pos.ffast hb ho
  exact⟨⟨h1⟩,h2⟩
theorem RdF.ffill {xs A:List Nat} {k len i:Nat} {T:List Cell} {s:BR} (h:RdF xs k len T A i s) (hb:Bytes xs):RdF xs k len T A i (BR.ffill xs k s)∧((BR.ffill xs k s).rd≤32∨(BR.ffill xs k s).off=0)∧(BR.ffill xs k s).off≤s.off:=by
  obtain⟨h1,h2⟩:=h.pos.ffill hb (fun _ _=>Om)
  exact⟨⟨h1⟩,h2⟩
theorem RdF.begin {xs text A:List Nat} {k len:Nat} {T:List Cell} (hT:FseT 6 T text A) (hb:Bytes xs) (hl:len=(12+fN T A)/8+1) (hv:tailV xs k len=2^(12+fN T A)+((A.getD 0 0*2^6+A.getD 1 0)*2^fN T A+fR T A)):
    0<xs.getD (k+(len-1)) 0∧(BR.finit xs k len).rd<64∧(BR.finit xs k len).OK len∧(BR.finit xs k len).fbits 6=A.getD 0 0∧((BR.finit xs k len).fskip 6).rd<64∧((BR.finit xs k len).fskip 6).OK len∧((BR.finit xs k len).fskip 6).fbits 6=A.getD 1 0∧RdF xs k len T A 0 (((BR.finit xs k len).fskip 6).fskip 6):=by
  have hR:=fse_R_lt hT
  have h0:A.getD 0 0<64:=hT.at_ 0
  have h1:A.getD 1 0<64:=hT.at_ 1
  have hf:fR T A<2^fN T A:=by have:=FseT.lt_ hT _ 0 rfl;rwa [List.drop_zero] at this
  have hP:PosF xs k len (BR.finit xs k len) (12+fN T A) ((A.getD 0 0*2^6+A.getD 1 0)*2^fN T A+fR T A)∧0<xs.getD (k+(len-1)) 0∧(BR.finit xs k len).rd+12≤64:=by
    rcases PosF.ofPacked hb hl hR hv with ⟨a,b,c⟩|⟨a,b,c⟩
    · exact⟨a,b,Om⟩
    · have:=a.n
      have:=a.rd
      exact⟨a,b,Om⟩
  obtain⟨hP1,hx,hrd⟩:=hP
  generalize BR.finit xs k len=s at*
  have pos:0<2^fN T A:=Nat.pow_pos Om
  have p6:(2:Nat)^(6+fN T A)=2^6*2^fN T A:=Nat.pow_add _ _ _
  generalize hn:fN T A=n at*
  generalize A.getD 0 0=a at*
  generalize A.getD 1 0=c at*
  generalize hr:fR T A=r at*
  obtain⟨hb1,_⟩:=hP1.bits hb (m:=6) Om Om Om
  have hs1:=hP1.skip hb (m:=6) Om
  have hrd1:(s.fskip 6).rd=s.rd+6:=by show(s.rd+6)%256=_;omega
  rw[show 12+n-6=6+n by omega] at hb1 hs1
  have e0:(a*2^6+c)*2^n+r=a*2^(6+n)+(c*2^n+r):=by rw[p6,Nat.add_mul,Nat.mul_assoc];omega
  have hlt:c*2^n+r<2^(6+n):=by
    have:(c+1)*2^n≤2^6*2^n:=Nat.mul_le_mul_right _ Om
    rw[Nat.add_mul,Nat.one_mul] at this
    omega
  have p6':0<2^(6+n):=Nat.pow_pos Om
  rw[e0,Nat.add_comm (_*_),Nat.add_mul_div_right _ _ p6',Nat.div_eq_of_lt hlt,Nat.zero_add] at hb1
  rw[e0,Nat.add_comm (_*_),Nat.add_mul_mod_self_right,Nat.mod_eq_of_lt hlt] at hs1
  obtain⟨hb2,_⟩:=hs1.bits hb (m:=6) Om Om Om
  have hs2:=hs1.skip hb (m:=6) Om
  rw[show 6+n-6=n by omega] at hb2 hs2
  rw[Nat.add_comm (_*_),Nat.add_mul_div_right _ _ pos,Nat.div_eq_of_lt hf,Nat.zero_add] at hb2
  rw[Nat.add_comm (_*_),Nat.add_mul_mod_self_right,Nat.mod_eq_of_lt hf] at hs2
  exact⟨hx,Om,hP1.ok,hb1,Om,hs1.ok,hb2,⟨by rw[List.drop_zero,hn,hr];exact hs2⟩⟩
theorem splN_take {W ys:List Nat} {j:Nat} (h:j+ys.length≤W.length):(splN W j ys).take (j+ys.length)=W.take j++ys:=by
  unfold splN
  rw[List.take_append_of_le_length Oz,List.take_of_length_le Oz]
theorem take4 {text:List Nat} {i:Nat} (h:i+4≤text.length):text.take i++[text.getD i 0,text.getD (i+1) 0,text.getD (i+2) 0,text.getD (i+3) 0]=text.take (i+4):=by
  rw[take_getD (i:=i+3) Om,take_getD (i:=i+2) Om,take_getD (i:=i+1) Om,take_getD (i:=i) Om]
  simp
theorem out1 {W text:List Nat} {i:Nat} (h:W.take i=text.take i) (hl:i+1≤W.length) (ht:i<text.length):(splN W i [text.getD i 0]).take (i+1)=text.take (i+1):=by
  have:=splN_take (W:=W) (ys:=[text.getD i 0]) (j:=i) (by simpa using hl)
  rw[show i+[text.getD i 0].length=i+1 from rfl] at this
  rw[this,h,take_getD ht]
theorem out2 {W text:List Nat} {i:Nat} (h:W.take i=text.take i) (hl:i+2≤W.length) (ht:text.length=i+2):(splN W i [text.getD i 0,text.getD (i+1) 0]).take text.length=text:=by
  have:=splN_take (W:=W) (ys:=[text.getD i 0,text.getD (i+1) 0]) (j:=i) (by simpa using hl)
  rw[show i+[text.getD i 0,text.getD (i+1) 0].length=i+2 from rfl] at this
  rw[ht,this,h]
  have h2:=take_getD (xs:=text) (i:=i+1) Om
  rw[take_getD (i:=i) Om,List.take_of_length_le Om] at h2
  rw[List.append_assoc] at h2
  exact h2.symm
theorem out0 {W M text:List Nat} {i:Nat} (h:M.take i=text.take i) (hl:i≤W.length) (hM:i≤M.length):(splN W 0 (M.take i)).take i=text.take i:=by
  have:=splN_take (W:=W) (ys:=M.take i) (j:=0) (by rw[List.length_take];omega)
  rw[Nat.zero_add,List.length_take,Nat.min_eq_left hM] at this
  rw[this,h];simp
theorem placeN_begin {cs:List Nat} {s at_:Nat} {Y F:List Nat} (h:place 64 (flatC s (cs.drop s)) at_ Y=F) (hs:s<cs.length):place 64 (List.replicate (cs.getD s 0-0) s++flatC (s+1) (cs.drop (s+1))) at_ Y=F:=by
  rwa [flat_drop hs] at h
theorem placeN_next {n k s at_:Nat} {t:List Nat} {D:List Cell} {F:List Nat} (h:place 64 (List.replicate (n-k) s++t) at_ (D.map (·.1))=F) (hk:k<n) (r:Nat × Nat):place 64 (List.replicate (n-(k+1)) s++t) ((at_+43)%64) ((D.set at_ (s,r)).map (·.1))=F:=by
  rw[rep_cons hk] at h
  rw[List.map_set]
  exact h
theorem placeN_over {n k s at_:Nat} {t Y F:List Nat} (h:place 64 (List.replicate (n-k) s++t) at_ Y=F) (hk:n≤k):place 64 t at_ Y=F:=by
  rwa [show n-k=0 by omega] at h
theorem placeN_end {cs:List Nat} {s at_:Nat} {Y F:List Nat} (h:place 64 (flatC s (cs.drop s)) at_ Y=F) (hs:cs.length≤s):Y=F:=by
  rwa [flat_end hs] at h
theorem and63' (n:Nat):n&&&63=n%64:=Nat.and_two_pow_sub_one_eq_mod n 6
theorem map_fst_getD (D:List Cell) (j:Nat):(D.map (·.1)).getD j 0=(D.getD j (0,0,0)).1:=by
  simp only[List.getD_eq_getElem?_getD,List.getElem?_map]
  cases D[j]? <;>rfl
theorem pos_step {a m:Nat} (h:a=m*43%64):(a+43)%64=(m+1)*43%64:=by omega
def NextOK (P C S:List Nat) (u:Nat):Prop:=∀x,x<P.length→S.getD x 0=P.getD x 0+(C.take u).count x
theorem NextOK.step {P C S:List Nat} {u s:Nat} (h:NextOK P C S u) (hu:u<C.length) (hs:C.getD u 0=s) (hS:P.length≤S.length) (hsl:s<P.length):NextOK P C (S.set s (S.getD s 0+1)) (u+1):=fun x hx=>by
  rw[take_getD hu,hs,List.count_append]
  by_cases e:x=s
  · subst e
    rw[List.count_singleton_self,set_getD Om,if_pos rfl,h x hx];omega
  · rw[List.count_singleton]
    have:(s==x)=false:=by simp;omega
    rw[set_other e,h x hx];simp[this]
def fillT (L:Nat):Nat→List Nat→List Nat→List Nat→List Nat
  |_,[],_,dt=>dt
  |n,w::ws,r,dt=>if w=0 then fillT L (n+1) ws r dt else fillT L (n+1) ws (r.set w (r.getD w 0+2^(w-1))) (splN dt (r.getD w 0) (List.replicate (2^(w-1)) (L+1-w+256*n)))
def reg (r ws:List Nat) (w v:Nat):Prop:=0<w∧r.getD w 0≤v∧v<r.getD w 0+ws.count w*2^(w-1)
structure FillOK (r ws dt:List Nat):Prop where
  r16:r.length=16
  w16:∀w ∈ ws,w<16
  fit:∀w,0<w→w ∈ ws→r.getD w 0+ws.count w*2^(w-1)≤dt.length
  dis:∀w w' v,reg r ws w v→reg r ws w' v→w=w'
theorem getD_rep {n v q:Nat} (h:q<n):(List.replicate n v).getD q 0=v:=by simp[List.getD_eq_getElem?_getD,h]
theorem FillOK.skip {r ws dt:List Nat} (h:FillOK r (0::ws) dt):FillOK r ws dt:=by
  have hc:∀w,0<w→(0::ws).count w=ws.count w:=fun w hw=>by rw[List.count_cons_of_ne Om]
  refine⟨h.r16,fun w hw=>h.w16 w (List.mem_cons_of_mem _ hw),fun w h0 h1=>by rw[←hc w h0];exact h.fit w h0 (List.mem_cons_of_mem _ h1),fun w w' v h1 h2=>h.dis w w' v ?_ ?_⟩
  · exact⟨h1.1,h1.2.1,by rw[hc w h1.1];exact h1.2.2⟩
  · exact⟨h2.1,h2.2.1,by rw[hc w' h2.1];exact h2.2.2⟩
theorem reg_step {r ws:List Nat} {w x v:Nat} (hr:r.length=16) (hw:w<16) (h0:0<w) (h:reg (r.set w (r.getD w 0+2^(w-1))) ws x v):reg r (w::ws) x v∧(x=w→r.getD w 0+2^(w-1)≤v):=by
  obtain⟨h1,h2,h3⟩:=h
  rw[getD_set Om] at h2 h3
  by_cases e:w=x
  · subst e
    rw[if_pos rfl] at h2 h3
    refine⟨⟨h1,Nat.le_trans (Nat.le_add_right _ _) h2,?_⟩,fun _=>h2⟩
    rw[List.count_cons_self,Nat.add_mul,Nat.one_mul];omega
  · rw[if_neg e] at h2 h3
    exact⟨⟨h1,h2,by rw[List.count_cons_of_ne Om];exact h3⟩,fun h=>(e h.symm).elim⟩
theorem FillOK.len1 {r ws dt:List Nat} {w:Nat} (h:FillOK r (w::ws) dt) (h0:0<w):r.getD w 0+2^(w-1)≤dt.length:=by
  have:=h.fit w h0 List.mem_cons_self
  rw[List.count_cons_self,Nat.add_mul,Nat.one_mul] at this
  omega
theorem FillOK.step {r ws dt dt':List Nat} {w:Nat} (h:FillOK r (w::ws) dt) (h0:0<w) (hd:dt'.length=dt.length):FillOK (r.set w (r.getD w 0+2^(w-1))) ws dt':=by
  have hw:=h.w16 w List.mem_cons_self
  refine⟨by simp[h.r16],fun x hx=>h.w16 x (List.mem_cons_of_mem _ hx),fun x hx0 hx=>?_,fun x y v h1 h2=>h.dis x y v (reg_step h.r16 hw h0 h1).1 (reg_step h.r16 hw h0 h2).1⟩
  have:=h.fit x hx0 (List.mem_cons_of_mem _ hx)
  rw[getD_set (by rw[h.r16];exact hw),hd]
  by_cases e:w=x
  · subst e
    rw[List.count_cons_self,Nat.add_mul,Nat.one_mul] at this
    rw[if_pos rfl];omega
  · rw[if_neg e]
    rw[List.count_cons_of_ne Om] at this
    exact this
theorem fillT_length {L:Nat}:∀(ws r dt:List Nat) (n:Nat),FillOK r ws dt→(fillT L n ws r dt).length=dt.length
  |[],r,dt,n,_=>rfl
  |w::ws,r,dt,n,h=>by
    unfold fillT
    by_cases e:w=0
    · subst e;rw[if_pos rfl];exact fillT_length ws r dt _ h.skip
    · rw[if_neg e]
      have hl:(splN dt (r.getD w 0) (List.replicate (2^(w-1)) (L+1-w+256*n))).length=dt.length:=splN_length (by simp;exact h.len1 Om)
      rw[fillT_length ws _ _ _ (h.step Om hl),hl]
theorem fillT_out {L:Nat}:∀(ws r dt:List Nat) (n v:Nat),FillOK r ws dt→(∀w,¬reg r ws w v)→(fillT L n ws r dt).getD v 0=dt.getD v 0
  |[],r,dt,n,v,_,_=>rfl
  |w::ws,r,dt,n,v,h,hv=>by
    unfold fillT
    by_cases e:w=0
    · subst e;rw[if_pos rfl]
      refine fillT_out ws r dt _ v h.skip fun x hx=>hv x ⟨hx.1,hx.2.1,?_⟩
      have h1:=hx.1
      rw[List.count_cons_of_ne Om];exact hx.2.2
    · rw[if_neg e]
      have hl1:=h.len1 Om
      have hl:(splN dt (r.getD w 0) (List.replicate (2^(w-1)) (L+1-w+256*n))).length=dt.length:=splN_length (by simp;exact hl1)
      rw[fillT_out ws _ _ _ v (h.step Om hl) fun x hx=>hv x (reg_step h.r16 (h.w16 w List.mem_cons_self) Om hx).1]
      rw[getD_splN (by simp;exact hl1),if_neg]
      intro ⟨h1,h2⟩
      rw[List.length_replicate] at h2
      refine hv w ⟨Om,h1,Nat.lt_of_lt_of_le h2 ?_⟩
      rw[List.count_cons_self,Nat.add_mul,Nat.one_mul];omega
theorem fillT_in {L:Nat}:∀(ws r dt:List Nat) (n s v:Nat),FillOK r ws dt→s<ws.length→0<ws.getD s 0→r.getD (ws.getD s 0) 0+(ws.take s).count (ws.getD s 0)*2^(ws.getD s 0-1)≤v→
      v<r.getD (ws.getD s 0) 0+((ws.take s).count (ws.getD s 0)+1)*2^(ws.getD s 0-1)→(fillT L n ws r dt).getD v 0=L+1-ws.getD s 0+256*(n+s)
  |[],r,dt,n,s,v,_,hs,_,_,_=>by simp at hs
  |w::ws,r,dt,n,0,v,h,hs,h0,h1,h2=>by
    simp only[List.getD_cons_zero,List.take_zero,List.count_nil,Nat.zero_mul,Nat.add_zero,Nat.zero_add,Nat.one_mul] at h0 h1 h2 ⊢
    unfold fillT
    rw[if_neg Om]
    have hl1:=h.len1 h0
    have hl:(splN dt (r.getD w 0) (List.replicate (2^(w-1)) (L+1-w+256*n))).length=dt.length:=splN_length (by simp;exact hl1)
    rw[fillT_out ws _ _ _ v (h.step h0 hl) fun x hx=>?_]
    · rw[getD_splN (by simp;exact hl1),if_pos ⟨h1,by simp;exact h2⟩,getD_rep Om]
    · obtain⟨hx1,hx2⟩:=reg_step h.r16 (h.w16 w List.mem_cons_self) h0 hx
      have hw:reg r (w::ws) w v:=⟨h0,h1,by rw[List.count_cons_self,Nat.add_mul,Nat.one_mul];omega⟩
      have:=h.dis x w v hx1 hw
      have:=hx2 this
      omega
  |w::ws,r,dt,n,s+1,v,h,hs,h0,h1,h2=>by
    simp only[List.getD_cons_succ,List.take_succ_cons] at h0 h1 h2 ⊢
    have hs':s<ws.length:=by simpa using hs
    unfold fillT
    rw[show n+(s+1)=n+1+s by omega]
    by_cases e:w=0
    · subst e
      rw[if_pos rfl]
      rw[List.count_cons_of_ne Om] at h1 h2
      exact fillT_in ws r dt (n+1) s v h.skip hs' h0 h1 h2
    · rw[if_neg e]
      have hl1:=h.len1 Om
      have hl:(splN dt (r.getD w 0) (List.replicate (2^(w-1)) (L+1-w+256*n))).length=dt.length:=splN_length (by simp;exact hl1)
      refine fillT_in ws _ _ (n+1) s v (h.step Om hl) hs' h0 ?_ ?_
      · rw[getD_set (by rw[h.r16];exact h.w16 w List.mem_cons_self)]
        by_cases e2:w=ws.getD s 0
        · rw[if_pos e2]
          rw[e2,List.count_cons_self,Nat.add_mul,Nat.one_mul] at h1
          rw[e2];omega
        · rw[if_neg e2]
          rw[List.count_cons_of_ne Om] at h1;exact h1
      · rw[getD_set (by rw[h.r16];exact h.w16 w List.mem_cons_self)]
        by_cases e2:w=ws.getD s 0
        · rw[if_pos e2]
          rw[e2,List.count_cons_self,Nat.add_mul,Nat.add_mul,Nat.one_mul] at h2
          rw[e2,Nat.add_mul,Nat.one_mul];omega
        · rw[if_neg e2]
          rw[List.count_cons_of_ne Om] at h2;exact h2
def startW (ws:List Nat):Nat→Nat
  |0=>0
  |w+1=>startW ws w+(if w=0 then 0 else ws.count w*2^(w-1))
theorem startW_mono (ws:List Nat) {a b:Nat} (h:a≤b):startW ws a≤startW ws b:=by
  induction b with
  |zero=>
    have:a=0:=Om
    subst this;exact Nat.le_refl _
  |succ b ih=>
    rcases Nat.lt_or_ge a (b+1) with h'|h'
    · exact Nat.le_trans (ih Om) (Nat.le_add_right _ _)
    · have:a=b+1:=Om
      subst this;exact Nat.le_refl _
theorem startW_succ {ws:List Nat} {w:Nat} (h:0<w):startW ws (w+1)=startW ws w+ws.count w*2^(w-1):=by
  simp only[startW];rw[if_neg Om]
theorem startW_dvd (ws:List Nat) {w:Nat} (h0:0<w):∀m,w≤m→2^(w-1)∣startW ws m-startW ws w
  |0,h=>by omega
  |m+1,h=>by
    rcases Nat.lt_or_ge w (m+1) with h'|h'
    · have ih:=startW_dvd ws h0 m Om
      rw[startW_succ Om]
      have hm:=startW_mono ws (show w≤m by omega)
      rw[show startW ws m+ws.count m*2^(m-1)-startW ws w=(startW ws m-startW ws w)+ws.count m*2^(m-1) by omega]
      refine Nat.dvd_add ih (Nat.dvd_mul_left_of_dvd (Nat.pow_dvd_pow 2 Om) _)
    · have:w=m+1:=Om
      subst this;simp
def codeW (L:Nat) (ws:List Nat) (s:Nat):Nat × Nat:=(L+1-ws.getD s 0,startW ws (ws.getD s 0)/2^(ws.getD s 0-1)+(ws.take s).count (ws.getD s 0))
theorem count_take_lt {ws:List Nat} {s:Nat} (hs:s<ws.length):(ws.take s).count (ws.getD s 0)+1≤ws.count (ws.getD s 0):=by
  have hg:ws.getD s 0=ws[s]:=by simp[hs]
  have h1:(ws.take (s+1)).count ws[s]=(ws.take s).count ws[s]+1:=by rw[List.take_succ_eq_append_getElem hs,List.count_append,List.count_singleton_self]
  rw[hg, ←h1]
  exact(List.take_sublist _ _).count_le _
theorem tab_of_weights {L:Nat} {ws r dt:List Nat} (hL:1≤L) (hL11:L≤11) (hlen:ws.length≤256) (hw:∀w ∈ ws,w≤L) (hr:r.length=16) (hst:∀w,0<w→w≤L→r.getD w 0=startW ws w) (hsum:startW ws (L+1)=2^L) (hdt:dt.length=2048):
    Tab (fillT L 0 ws r dt) L (codeW L ws) (fun s=>s<ws.length∧0<ws.getD s 0)∧(fillT L 0 ws r dt).length=2048:=by
  have pos:∀m:Nat,0<2^m:=fun m=>Nat.pow_pos Om
  have hLL:(2:Nat)^L≤2^11:=Nat.pow_le_pow_right Om hL11
  have cnt0:∀w,L<w→ws.count w=0:=fun w h=>List.count_eq_zero.2 fun hm=>by have:=hw w hm;omega
  have inreg:∀w v,reg r ws w v→w≤L∧startW ws w≤v∧v<startW ws (w+1):=fun w v h=>by
    rcases Nat.lt_or_ge L w with h'|h'
    · have:=h.2.2;rw[cnt0 w h'] at this;have:=h.2.1;omega
    · have h1:=h.2.1;have h2:=h.2.2
      rw[hst w h.1 h'] at h1 h2
      exact⟨h',h1,by rw[startW_succ h.1];exact h2⟩
  have ok:FillOK r ws dt:=by
    refine⟨hr,fun w h=>by have:=hw w h;omega,fun w h0 h16=>?_,fun w w' v h1 h2=>?_⟩
    · have h':=hw w h16
      rw[hst w h0 h', ←startW_succ h0]
      have:=startW_mono ws (show w+1≤L+1 by omega)
      omega
    · obtain⟨_,a1,a2⟩:=inreg w v h1
      obtain⟨_,b1,b2⟩:=inreg w' v h2
      rcases Nat.lt_trichotomy w w' with h|h|h
      · have:=startW_mono ws (show w+1≤w' by omega);omega
      · exact h
      · have:=startW_mono ws (show w'+1≤w by omega);omega
  refine⟨⟨hL,hL11,fun s hs=>?_,fun s hs v hv he=>?_⟩,by rw[fillT_length ws r dt 0 ok];exact hdt⟩
  all_goals
    have hm:ws.getD s 0≤L:=hw _ (by simp[hs.1])
    have hdv:=startW_dvd ws hs.2 (L+1) Om
    have hle:=startW_mono ws (show ws.getD s 0≤L+1 by omega)
    have hle2:=startW_mono ws (show ws.getD s 0+1≤L+1 by omega)
    rw[startW_succ hs.2] at hle2
    have hc:=count_take_lt hs.1
    rw[hsum] at hdv hle hle2
    have h2:2^(ws.getD s 0-1)∣startW ws (ws.getD s 0):=by
      have:=Nat.dvd_sub (Nat.pow_dvd_pow 2 (show ws.getD s 0-1≤L by omega)) hdv
      rwa [show 2^L-(2^L-startW ws (ws.getD s 0))=startW ws (ws.getD s 0) by omega] at this
    obtain⟨q,hq⟩:=h2
    have hqd:startW ws (ws.getD s 0)/2^(ws.getD s 0-1)=q:=by rw[hq,Nat.mul_div_cancel_left _ (pos _)]
    have hqm:startW ws (ws.getD s 0)=q*2^(ws.getD s 0-1):=by rw[hq,Nat.mul_comm]
  · refine⟨Om,by show 1≤L+1-_;omega,by show L+1-_≤L;omega,?_⟩
    show startW ws (ws.getD s 0)/2^(ws.getD s 0-1)+_<2^(L+1-ws.getD s 0)
    rw[hqd]
    have e:(2:Nat)^L=2^(L+1-ws.getD s 0)*2^(ws.getD s 0-1):=by rw[←Nat.pow_add];congr 1;omega
    rw[hqm,e, ←Nat.add_mul] at hle2
    have:=Nat.le_of_mul_le_mul_right hle2 (pos _)
    omega
  · have e1:L-(codeW L ws s).1=ws.getD s 0-1:=by show L-(L+1-ws.getD s 0)=_;omega
    rw[e1] at he
    have e2:(codeW L ws s).2=q+(ws.take s).count (ws.getD s 0):=by show _/_+_=_;rw[hqd]
    rw[e2] at he
    have hv1:(q+(ws.take s).count (ws.getD s 0))*2^(ws.getD s 0-1)≤v:=by rw[←he];exact Nat.div_mul_le_self _ _
    have hv2:v<(q+(ws.take s).count (ws.getD s 0)+1)*2^(ws.getD s 0-1):=by
      rw[←he];exact Nat.lt_mul_of_div_lt (Nat.lt_succ_self _) (pos _)
    rw[Nat.add_assoc,Nat.add_mul, ←hqm] at hv2
    rw[Nat.add_mul, ←hqm] at hv1
    have:=fillT_in (L:=L) ws r dt 0 s v ok hs.1 hs.2 (by rw[hst _ hs.2 hm];exact hv1) (by rw[hst _ hs.2 hm];exact hv2)
    rw[this];show _=L+1-_+_;omega
def allW (ls:List Nat) (L last:Nat):List Nat:=(ls.take (last+1)).map (wOf L)
theorem HW.le_at {ls:List Nat} {L last:Nat} (h:HW ls L last) (i:Nat):ls.getD i 0≤L:=h.le.at_ i
theorem HW.L1 {ls:List Nat} {L last:Nat} (h:HW ls L last):1≤L:=by
  have:=h.le_at last;have:=h.nz;omega
theorem wOf_inj {L a b:Nat} (ha:a≤L) (hb:b≤L) (h:wOf L a=wOf L b):a=b:=by
  unfold wOf at h
  split at h<;>split at h<;>omega
theorem count_wOf {L n:Nat} (hn:n≤L):∀xs:List Nat,AllLe xs L→(xs.map (wOf L)).count (wOf L n)=xs.count n
  |[],_=>rfl
  |x::xs,h=>by
    have ih:=count_wOf hn xs (fun y hy=>h y (List.mem_cons_of_mem _ hy))
    have hx:=h x List.mem_cons_self
    rw[List.map_cons,List.count_cons,List.count_cons,ih]
    by_cases e:x=n
    · subst e;simp
    · have e2:wOf L x≠wOf L n:=fun h'=>e (wOf_inj hx hn h')
      simp[e,e2]
theorem AllLe.take' {xs:List Nat} {b:Nat} (h:AllLe xs b) (i:Nat):AllLe (xs.take i) b:=fun x hx=>h x (List.mem_of_mem_take hx)
theorem allW_length {ls:List Nat} {L last:Nat} (h:HW ls L last):(allW ls L last).length=last+1:=by
  have:=h.lt;simp[allW];omega
theorem allW_get {ls:List Nat} {L last s:Nat} (h:HW ls L last) (hs:s≤last):(allW ls L last).getD s 0=wOf L (ls.getD s 0):=by
  have:=h.lt
  simp[allW,List.getD_eq_getElem?_getD,show s<last+1 by omega,show s<ls.length by omega]
theorem allW_le {ls:List Nat} {L last:Nat}:∀w ∈ allW ls L last,w≤L:=fun w hw=>by
  simp only[allW,List.mem_map] at hw
  obtain⟨x,_,rfl⟩:=hw
  unfold wOf;split<;>omega
theorem rest_zero {ls:List Nat} {L last:Nat} (h:HW ls L last):∀x ∈ ls.drop (last+1),x=0:=fun x hx=>by
  obtain⟨i,hi,rfl⟩:=List.getElem_of_mem hx
  have:=h.z (last+1+i) Om
  rw[List.getElem_drop]
  rw[List.length_drop] at hi
  simpa [List.getD_eq_getElem?_getD,show last+1+i<ls.length by omega] using this
theorem count_front {ls:List Nat} {L last n:Nat} (h:HW ls L last) (hn:1≤n):(ls.take (last+1)).count n=ls.count n:=by
  have e:ls.count n=(ls.take (last+1)).count n+(ls.drop (last+1)).count n:=by rw[←List.count_append,List.take_append_drop]
  have:(ls.drop (last+1)).count n=0:=List.count_eq_zero.2 fun hm=>by have:=rest_zero h n hm;omega
  omega
theorem count_allW {ls:List Nat} {L last n:Nat} (h:HW ls L last) (hn:1≤n) (hnL:n≤L):(allW ls L last).count (L+1-n)=ls.count n:=by
  have e:L+1-n=wOf L n:=by unfold wOf;rw[if_neg Om]
  rw[e,allW,count_wOf hnL _ (h.le.take' _),count_front h hn]
theorem nx_zero {ls:List Nat} {L:Nat} (h:AllLe ls L):∀d,d+L≤11→nx ls d=0
  |0,_=>rfl
  |d+1,hd=>by
    have h0:ls.count (11-d)=0:=List.count_eq_zero.2 fun hm=>by have:=h _ hm;omega
    simp only[nx,nx_zero h d Om,h0]
theorem nxt_top {ls:List Nat} {L:Nat} (h:AllLe ls L) (hL:L≤11):nxt ls L=0:=nx_zero h _ Om
theorem start_nxt {ls:List Nat} {L last:Nat} (h:HW ls L last) (hL:L≤11) (he:EvenAll ls):∀w,1≤w→w≤L+1→startW (allW ls L last) w=nxt ls (L+1-w)*2^(w-1)
  |0,h0,_=>by omega
  |1,_,_=>by rw[Nat.add_sub_cancel,nxt_top h.le hL];simp[startW]
  |w+2,_,hw=>by
    have ih:=start_nxt h hL he (w+1) Om Om
    rw[startW_succ Om,ih]
    have hc:=count_allW h (n:=L-w) Om Om
    rw[show L+1-(L-w)=w+1 by omega] at hc
    have hp:=nxt_pred ls (m:=L-w) Om Om
    have hv:=he (L-w) Om Om
    rw[hc,show L+1-(w+1)=L-w by omega,show L+1-(w+2)=L-w-1 by omega,hp,Nat.add_sub_cancel,show w+2-1=w+1 by omega,Nat.pow_succ, ←Nat.add_mul]
    generalize nxt ls (L-w)+ls.count (L-w)=q at hv
    obtain⟨r,rfl⟩:∃r,q=r*2:=⟨q/2,Om⟩
    rw[Nat.mul_div_cancel _ Om,Nat.mul_assoc,Nat.mul_comm 2]
theorem code_eq {ls:List Nat} {L last s:Nat} (h:HW ls L last) (hL:L≤11) (he:EvenAll ls) (hs:1≤ls.getD s 0):codeW L (allW ls L last) s=cdL ls s∧s≤last:=by
  have hsl:s≤last:=Classical.byContradiction fun hn=>by have:=h.z s Om;omega
  have hn:=h.le_at s
  refine⟨?_,hsl⟩
  have hg:=allW_get h hsl
  have hw:wOf L (ls.getD s 0)=L+1-ls.getD s 0:=by unfold wOf;rw[if_neg Om]
  unfold codeW cdL numC
  rw[hg]
  refine Prod.ext (by rw[hw];omega) ?_
  show startW _ _/_+_=_
  rw[hw,start_nxt h hL he _ Om Om,Nat.mul_div_cancel _ (Nat.pow_pos Om),show L+1-(L+1-ls.getD s 0)=ls.getD s 0 by omega]
  congr 1
  have e:(allW ls L last).take s=(ls.take s).map (wOf L):=by
    rw[allW, ←List.map_take,List.take_take,Nat.min_eq_left Om]
  rw[e, ←hw,count_wOf hn _ (h.le.take' _)]
def cellsW:List Nat→Nat
  |[]=>0
  |w::ws=>(if w=0 then 0 else 2^(w-1))+cellsW ws
theorem cellsW_append:∀a b:List Nat,cellsW (a++b)=cellsW a+cellsW b
  |[],b=>by simp[cellsW]
  |x::a,b=>by simp only[List.cons_append,cellsW,cellsW_append a b];omega
theorem startW_nil:∀m,startW [] m=0
  |0=>rfl
  |m+1=>by simp only[startW,startW_nil m];split<;>simp
theorem startW_cons (x:Nat) (ws:List Nat):∀m,startW (x::ws) m=startW ws m+(if x=0∨m≤x then 0 else 2^(x-1))
  |0=>by simp[startW]
  |m+1=>by
    simp only[startW,startW_cons x ws m]
    by_cases hm:m=0
    · subst hm
      simp only[if_true]
      rw[if_pos Om,if_pos Om]
    · rw[if_neg hm,if_neg hm,List.count_cons]
      by_cases e:x=m
      · subst e
        rw[if_pos (show x=0∨x≤x by omega),if_neg (show¬(x=0∨x+1≤x) by omega),if_pos (beq_self_eq_true x),Nat.add_mul,Nat.one_mul];omega
      · have:(x==m)=false:=by simp;omega
        simp only[this,Bool.false_eq_true,if_false,Nat.add_zero]
        by_cases h1:x=0∨m≤x
        · rw[if_pos h1,if_pos Om];omega
        · rw[if_neg h1,if_neg Om];omega
theorem startW_all {L:Nat}:∀ws:List Nat,(∀w ∈ ws,w≤L)→startW ws (L+1)=cellsW ws
  |[],_=>startW_nil _
  |x::ws,h=>by
    have hx:=h x List.mem_cons_self
    rw[startW_cons,startW_all ws (fun w hw=>h w (List.mem_cons_of_mem _ hw)),cellsW]
    by_cases e:x=0
    · rw[if_pos Om,if_pos e];omega
    · rw[if_neg Om,if_neg e];omega
theorem cells_kraft {L:Nat} (hL:L≤11):∀xs:List Nat,AllLe xs L→cellsW (xs.map (wOf L))*2^(11-L)=kraft xs
  |[],_=>by simp[cellsW,kraft]
  |x::xs,h=>by
    have ih:=cells_kraft hL xs (fun y hy=>h y (List.mem_cons_of_mem _ hy))
    have hx:=h x List.mem_cons_self
    rw[List.map_cons,cellsW,kraft,Nat.add_mul,ih]
    congr 1
    unfold wOf
    by_cases e:x=0
    · rw[if_pos e,if_pos rfl,if_pos e,Nat.zero_mul]
    · rw[if_neg e,if_neg Om,if_neg e, ←Nat.pow_add];congr 1;omega
theorem kraft_rest {ls:List Nat} {L last:Nat} (h:HW ls L last):kraft (ls.take (last+1))=kraft ls:=by
  have e:kraft ls=kraft (ls.take (last+1))+kraft (ls.drop (last+1)):=by rw[←kraft_append,List.take_append_drop]
  have hz:∀xs:List Nat,(∀x ∈ xs,x=0)→kraft xs=0:=fun xs=>by
    induction xs with
    |nil=>intro _;rfl
    |cons x xs ih=>intro hx;simp only[kraft,hx x List.mem_cons_self,ih fun y hy=>hx y (List.mem_cons_of_mem _ hy)];rfl
  rw[hz _ (rest_zero h)] at e
  omega
theorem cells_whole {ls:List Nat} {L last:Nat} (h:HW ls L last) (hw:WholeL ls) (hL:L≤11):cellsW (allW ls L last)=2^L:=by
  have h1:=cells_kraft hL (ls.take (last+1)) (h.le.take' _)
  rw[kraft_rest h,hw.2.2.1,show(2048:Nat)=2^L*2^(11-L) by rw[←Nat.pow_add,show L+(11-L)=11 by omega]] at h1
  exact Nat.eq_of_mul_eq_mul_right (Nat.pow_pos Om) h1
theorem allW_snoc {ls:List Nat} {L last:Nat} (h:HW ls L last):allW ls L last=weightsOf ls L last++[wOf L (ls.getD last 0)]:=by
  rw[allW,take_getD h.lt,List.map_append];rfl
theorem HW.L11 {ls:List Nat} {L last:Nat} (h:HW ls L last) (hw:WholeL ls):L≤11:=by
  obtain⟨p,hp,rfl⟩:=h.at_
  exact hw.2.1.at_ p
theorem weights_sum {ls:List Nat} {L last:Nat} (h:HW ls L last) (hw:WholeL ls):cellsW (weightsOf ls L last)+2^(L-ls.getD last 0)=2^L∧1≤ls.getD last 0∧ls.getD last 0≤L:=by
  have h1:=cells_whole h hw (h.L11 hw)
  have h2:=h.nz
  have h3:=h.le_at last
  rw[allW_snoc h,cellsW_append] at h1
  simp only[cellsW,wOf,if_neg h2] at h1
  rw[if_neg Om,show L+1-ls.getD last 0-1=L-ls.getD last 0 by omega] at h1
  exact⟨Om,Om,h3⟩
theorem weights_log {ls:List Nat} {L last:Nat} (h:HW ls L last) (hw:WholeL ls):blen (cellsW (weightsOf ls L last))=L∧2^(L-1)≤cellsW (weightsOf ls L last):=by
  obtain⟨h1,h2,h3⟩:=weights_sum h hw
  have hp:(2:Nat)^(L-ls.getD last 0)≤2^(L-1):=Nat.pow_le_pow_right Om Om
  have hq:(2:Nat)^L=2^(L-1)*2:=by rw[←Nat.pow_succ];congr 1;omega
  have hpos:=Nat.pow_pos (n:=L-ls.getD last 0) (show 0<2 by omega)
  have a:=blen_le (n:=cellsW (weightsOf ls L last)) (k:=L) Om
  have b:=blen_lt (cellsW (weightsOf ls L last))
  have c:L-1<blen (cellsW (weightsOf ls L last)):=(Nat.pow_lt_pow_iff_right Om).1 (Nat.lt_of_le_of_lt (show 2^(L-1)≤_ by omega) b)
  exact⟨Om,Om⟩
theorem longest_even {ls:List Nat} {L last:Nat} (h:HW ls L last) (hL:L≤11) (he:EvenAll ls):2≤(allW ls L last).count 1∧(allW ls L last).count 1%2=0:=by
  have hc:=count_allW h (n:=L) h.L1 (Nat.le_refl _)
  rw[show L+1-L=1 by omega] at hc
  have h1:=he L h.L1 hL
  rw[nxt_top h.le hL,Nat.zero_add] at h1
  obtain⟨p,hp,hpl⟩:=h.at_
  have h2:0<ls.count L:=List.count_pos_iff.2 (by rw[←hpl];exact mem_getD hp)
  omega
theorem div_mod_low {X c m N:Nat} (h:c+m≤N):X/2^c%2^m=X%2^N/2^c%2^m:=by
  have e:(2:Nat)^N=2^c*2^(N-c):=by rw[←Nat.pow_add];congr 1;omega
  rw[e,Nat.mod_mul_right_div_self]
  exact(Nat.mod_mod_of_dvd _ (Nat.pow_dvd_pow 2 Om)).symm
theorem win_bits {xs:List Nat} (hb:Bytes xs) {k len off c m:Nat} (ho:off+4≤len) (hm:c+m≤32):le32 xs (k+off)/2^c%2^m=tailV xs k len/2^(8*off+c)%2^m:=by
  have h1:=tailV_add xs k off (len-off)
  rw[show off+(len-off)=len by omega] at h1
  have h2:tailV xs k len/2^(8*off)=tailV xs (k+off) (len-off):=by
    rw[h1,Nat.add_mul_div_right _ _ (Nat.pow_pos Om),Nat.div_eq_of_lt (tailV_lt hb k off),Nat.zero_add]
  rw[Nat.pow_add, ←Nat.div_div_eq_div_mul,h2,div_mod_low (N:=32) (X:=tailV xs (k+off) (len-off)) hm]
  have h3:=tailV_mod hb (k+off) (m:=4) (n:=len-off) Om
  rw[show 8*4=32 from rfl] at h3
  have h4:le32 xs (k+off)=tailV xs (k+off) 4:=by rw[le32_sum hb];simp only[tailV];simp
  rw[h3,h4]
theorem mod_of_mod {a b m n:Nat} (h:m≤n) (e:a%2^n=b):a%2^m=b%2^m:=by
  rw[←e];exact(Nat.mod_mod_of_dvd _ (Nat.pow_dvd_pow 2 h)).symm
theorem Low.win {xs ys bs:List Nat} {k len p off c m:Nat} (hL:Low ys len p bs) (hb:Bytes xs) (he:tailV xs k len=tailV ys 0 len) (ho:off+4≤len) (hp:8*off+c=p) (hm:c+m≤32) (hm2:m≤bs.length):le32 xs (k+off)/2^c%2^m=lowV bs%2^m:=by
  rw[win_bits hb ho hm,hp,he]
  exact mod_of_mod hm2 hL.2
theorem lowV_front {a b:List Nat} (ha:Bits a):lowV (a++b)%2^a.length=lowV a:=by
  rw[lowV_append,Nat.add_mul_mod_self_left,Nat.mod_eq_of_lt (lowV_lt ha)]
theorem Low.front {xs ys a bs:List Nat} {k len p off c:Nat} (hL:Low ys len p (a++bs)) (ha:Bits a) (hb:Bytes xs) (he:tailV xs k len=tailV ys 0 len) (ho:off+4≤len) (hp:8*off+c=p) (hm:c+a.length≤32):le32 xs (k+off)/2^c%2^a.length=lowV a:=by
  rw[hL.win hb he ho hp hm Oi,lowV_front ha]
theorem encV_win {w most v:Nat} (h:w%2^(encV most v).length=lowV (encV most v)) (hv:v≤most) (h0:0<most):
    (w%2^(blen most-1)<2^blen most-1-most∧w%2^(blen most-1)=v∧(encV most v).length=blen most-1)∨
      (2^blen most-1-most≤w%2^(blen most-1)∧(encV most v).length=blen most∧((2^(blen most-1)≤w%2^blen most∧w%2^blen most=v+(2^blen most-1-most))∨(w%2^blen most<2^(blen most-1)∧w%2^blen most=v))):=by
  obtain⟨k,hk⟩:∃k,blen most=k+1:=⟨blen most-1,by have:=blen_pos h0;omega⟩
  have hk1:=blen_ge h0
  have hk2:=blen_lt most
  have hp:(2:Nat)^(k+1)=2^k*2:=Nat.pow_succ ..
  by_cases h1:v<2^blen most-1-most
  · have e:encV most v=lowB v (blen most-1):=if_pos h1
    rw[e,lowB_length,lowV_lowB] at h
    rw[hk,Nat.add_sub_cancel] at hk1 h ⊢
    rw[hk] at hk2 h1
    rw[Nat.mod_eq_of_lt (show v<2^k by omega)] at h
    exact .inl ⟨Om,h,by rw[e,lowB_length,hk,Nat.add_sub_cancel]⟩
  · by_cases h2:v<2^(blen most-1)
    · have e:encV most v=lowB v (blen most):=by unfold encV;rw[if_neg h1,if_pos h2]
      rw[e,lowB_length,lowV_lowB] at h
      have h3:=mod_of_mod (show k≤blen most by omega) h
      rw[hk] at hk2 h1 h h3
      rw[hk,Nat.add_sub_cancel] at hk1 h2 ⊢
      rw[Nat.mod_eq_of_lt (show v<2^(k+1) by omega)] at h h3
      rw[Nat.mod_eq_of_lt h2] at h3
      exact .inr ⟨Om,by rw[e,lowB_length,hk],.inr ⟨Om,h⟩⟩
    · have e:encV most v=lowB (v+(2^blen most-1-most)) (blen most):=by unfold encV;rw[if_neg h1,if_neg h2]
      rw[e,lowB_length,lowV_lowB] at h
      have h3:=mod_of_mod (show k≤blen most by omega) h
      rw[hk] at hk2 h1 h h3
      rw[hk,Nat.add_sub_cancel] at hk1 h2 ⊢
      have hlt:v+(2^(k+1)-1-most)<2^(k+1):=Om
      rw[Nat.mod_eq_of_lt hlt] at h h3
      have h4:(v+(2^(k+1)-1-most))%2^k=v+(2^(k+1)-1-most)-2^k:=by
        rw[Nat.mod_eq_sub_mod (show v+(2^(k+1)-1-most)≥2^k by omega),Nat.mod_eq_of_lt Om]
      rw[h4] at h3
      exact .inr ⟨Om,by rw[e,lowB_length,hk],.inl ⟨Om,h⟩⟩
theorem encV_len {most v:Nat}:blen most-1≤(encV most v).length∧(encV most v).length≤blen most:=by
  unfold encV
  split
  · rw[lowB_length];omega
  · split<;>rw[lowB_length]<;>omega
theorem zer_win {w z:Nat} (h:w%2^(zerosB z).length=lowV (zerosB z)):(3≤z∧w%4=3∧w/4%2^(zerosB (z-3)).length=lowV (zerosB (z-3))∧(zerosB z).length=2+(zerosB (z-3)).length)∨(z<3∧w%4=z∧(zerosB z).length=2):=by
  by_cases h3:3≤z
  · have e:=zerosB_step h3
    have hl:(zerosB z).length=2+(zerosB (z-3)).length:=by rw[e,List.length_append,lowB_length]
    rw[hl,e,lowV_append,lowV_lowB,lowB_length,Nat.pow_add] at h
    have h1:=congrArg (· %2^2) h
    have h2:=congrArg (· /2^2) h
    simp only[Nat.mod_mul_right_mod,Nat.mod_mul_right_div_self] at h1 h2
    exact .inl ⟨h3,Om,by rw[show(4:Nat)=2^2 from rfl,h2];omega,hl⟩
  · have e:=zerosB_end (show z<3 by omega)
    rw[e,lowB_length,lowV_lowB] at h
    exact .inr ⟨Om,Om,by rw[e,lowB_length]⟩
theorem zer_len:∀z,(zerosB z).length=2*(z/3)+2
  |0=>rfl
  |1=>rfl
  |2=>rfl
  |m+3=>by
    show(lowB 3 2++zerosB m).length=_
    rw[List.length_append,lowB_length,zer_len m];omega
theorem zer_ones:∀z,lowV (zerosB z)+1<2^(zerosB z).length
  |0=>by decide
  |1=>by decide
  |2=>by decide
  |m+3=>by
    show lowV (lowB 3 2++zerosB m)+1<2^(lowB 3 2++zerosB m).length
    have:=zer_ones m
    rw[List.length_append,lowV_append,lowV_lowB,lowB_length,Nat.pow_add]
    omega
theorem ones16:∀n,n≤16→65535%2^n+1=2^n:=by decide
theorem zer_not16 {w z:Nat} (h:w%2^(zerosB z).length=lowV (zerosB z)) (hz:z≤20):w%65536≠65535:=fun e=>by
  have hl:=zer_len z
  have h1:=mod_of_mod (show(zerosB z).length≤16 by omega) (show w%2^16=65535 from e)
  rw[h] at h1
  have h2:=zer_ones z
  have h3:=ones16 (zerosB z).length Om
  omega
theorem blen_of {n k:Nat} (h1:2^(k-1)≤n) (h2:n<2^k) (hk:1≤k):blen n=k:=by
  have a:=blen_le h2
  have b:=blen_lt n
  have c:k-1<blen n:=(Nat.pow_lt_pow_iff_right Om).1 (Nat.lt_of_le_of_lt h1 b)
  omega
structure Hist (H P:List Nat):Prop where
  len:H.length=64
  sum:∀v,v<16→H.getD v 0+H.getD (16+v) 0+H.getD (32+v) 0+H.getD (48+v) 0=P.count v
theorem Hist.zero:Hist (List.replicate 64 0) []:=⟨List.length_replicate,fun v hv=>by rw[getD_rep0,getD_rep0,getD_rep0,getD_rep0];rfl⟩
theorem Hist.step {H P:List Nat} (h:Hist H P) {a x:Nat} (hx:x<16) (ha:a=x∨a=16+x∨a=32+x∨a=48+x):Hist (H.set a (H.getD a 0+1)) (P++[x]):=by
  have hl:=h.len
  have g:∀j,(H.set a (H.getD a 0+1)).getD j 0=H.getD j 0+if a=j then 1 else 0:=fun j=>by
    rw[getD_set Om]
    by_cases e:a=j
    · subst e;simp
    · simp[e]
  refine⟨by rw[List.length_set];exact hl,fun v hv=>?_⟩
  rw[g,g,g,g,List.count_append, ←h.sum v hv]
  have b:[x].count v=if x=v then 1 else 0:=by
    by_cases e:x=v
    · subst e;simp
    · simp[e]
  rw[b]
  by_cases e:x=v
  · subst e
    rw[if_pos (rfl:x=x)]
    rcases ha with rfl|rfl|rfl|rfl
    · rw[if_pos rfl,if_neg Om,if_neg Om,if_neg Om];omega
    · rw[if_neg Om,if_pos rfl,if_neg Om,if_neg Om];omega
    · rw[if_neg Om,if_neg Om,if_pos rfl,if_neg Om];omega
    · rw[if_neg Om,if_neg Om,if_neg Om,if_pos rfl];omega
  · rw[if_neg e,if_neg Om,if_neg Om,if_neg Om,if_neg Om];omega
theorem Hist.le {H P:List Nat} (h:Hist H P) {v:Nat} (hv:v<16):H.getD v 0≤P.length∧H.getD (16+v) 0≤P.length∧H.getD (32+v) 0≤P.length∧H.getD (48+v) 0≤P.length:=by
  have h1:=h.sum v hv
  have h2:=List.count_le_length (a:=v) (l:=P)
  omega
def Ranks (R P:List Nat) (n:Nat):Prop:=∀v,v<n→R.getD v 0=P.count v
theorem Ranks.step {R P:List Nat} {n x:Nat} (h:Ranks R P n) (hn:n<R.length) (hx:x=P.count n):Ranks (R.set n x) P (n+1):=fun v hv=>by
  rw[getD_set hn]
  by_cases e:n=v
  · rw[if_pos e,hx,e]
  · rw[if_neg e];exact h v Om
theorem Ranks.last {R P:List Nat} {n x:Nat} (h:Ranks R P n) (hn:n≤R.length) (hx:x<n):Ranks (R.set x (R.getD x 0+1)) (P++[x]) n:=fun v hv=>by
  rw[getD_set Om,List.count_append]
  by_cases e:x=v
  · subst e;rw[if_pos rfl,h x hx];simp
  · rw[if_neg e,h v hv];simp[e]
theorem rank_term {ws:List Nat} {i L:Nat} (h:∀w ∈ ws,w≤L) (hs:cellsW ws≤2048) (hi:1≤i):startW ws i+ws.count i*2^(i-1)=startW ws (i+1)∧startW ws (i+1)≤2048:=by
  refine⟨(startW_succ hi).symm,?_⟩
  have h1:=startW_all (L:=max L i) ws fun w hw=>Nat.le_trans (h w hw) (Nat.le_max_left _ _)
  have h2:=startW_mono ws (show i+1≤max L i+1 by have:=Nat.le_max_right L i;omega)
  omega
structure Begins (R ws:List Nat) (n:Nat):Prop where
  low:∀v,1≤v→v<n→R.getD v 0=startW ws v
  high:∀v,n≤v→v<16→R.getD v 0=ws.count v
theorem Begins.init {R ws:List Nat} (h:Ranks R ws 16):Begins R ws 1:=⟨fun v h1 h2=>Om,fun v _ h2=>h v h2⟩
theorem Begins.step {R ws:List Nat} {n x:Nat} (h:Begins R ws n) (hl:R.length=16) (hn:n<16) (hx:x=startW ws n):Begins (R.set n x) ws (n+1):=by
  refine⟨fun v h1 h2=>?_,fun v h1 h2=>?_⟩
  · rw[getD_set Om]
    by_cases e:n=v
    · rw[if_pos e,hx,e]
    · rw[if_neg e];exact h.low v h1 Om
  · rw[getD_set Om,if_neg Om];exact h.high v Om h2
theorem blen_pow (k:Nat):blen (2^k)=k+1:=blen_of (by rw[Nat.add_sub_cancel];exact Nat.le_refl _) (Nat.pow_lt_pow_right Om Om) Om
theorem startW_le {ws:List Nat} {L w:Nat} (hws:∀x ∈ ws,x≤L) (hsum:cellsW ws=2^L) (hw:w≤L):startW ws (w+1)≤2^L:=by
  rw[←hsum, ←startW_all ws hws]
  exact startW_mono ws Om
theorem fill_ok {L:Nat} {ws r dt:List Nat} (hL11:L≤11) (hw:∀w ∈ ws,w≤L) (hr:r.length=16) (hst:∀w,0<w→w≤L→r.getD w 0=startW ws w) (hsum:cellsW ws=2^L) (hdt:dt.length=2048):FillOK r ws dt:=by
  have hLL:(2:Nat)^L≤2^11:=Nat.pow_le_pow_right Om hL11
  have cnt0:∀w,L<w→ws.count w=0:=fun w h=>List.count_eq_zero.2 fun hm=>by have:=hw w hm;omega
  have inreg:∀w v,reg r ws w v→w≤L∧startW ws w≤v∧v<startW ws (w+1):=fun w v h=>by
    rcases Nat.lt_or_ge L w with h'|h'
    · have:=h.2.2;rw[cnt0 w h'] at this;have:=h.2.1;omega
    · have h1:=h.2.1;have h2:=h.2.2
      rw[hst w h.1 h'] at h1 h2
      exact⟨h',h1,by rw[startW_succ h.1];exact h2⟩
  refine⟨hr,fun w h=>by have:=hw w h;omega,fun w h0 h16=>?_,fun w w' v h1 h2=>?_⟩
  · have h':=hw w h16
    rw[hst w h0 h', ←startW_succ h0]
    have:=startW_le hw hsum h'
    omega
  · obtain⟨_,a1,a2⟩:=inreg w v h1
    obtain⟨_,b1,b2⟩:=inreg w' v h2
    rcases Nat.lt_trichotomy w w' with h|h|h
    · have:=startW_mono ws (show w+1≤w' by omega);omega
    · exact h
    · have:=startW_mono ws (show w'+1≤w by omega);omega
structure Fill (L:Nat) (ws:List Nat) (n:Nat) (R D F:List Nat):Prop where
  eq:fillT L n (ws.drop n) R D=F
  ok:FillOK R (ws.drop n) D
  len:D.length=2048
theorem Fill.skip {L n:Nat} {ws R D F:List Nat} (h:Fill L ws n R D F) (hn:n<ws.length) (h0:ws.getD n 0=0):Fill L ws (n+1) R D F:=by
  have e:=drop_getD hn
  rw[h0] at e
  have h1:=h.eq
  have h2:=h.ok
  rw[e] at h1 h2
  unfold fillT at h1
  rw[if_pos rfl] at h1
  exact⟨h1,h2.skip,h.len⟩
theorem Fill.room {L n:Nat} {ws R D F:List Nat} (h:Fill L ws n R D F) (hn:n<ws.length) (h0:ws.getD n 0≠0):R.getD (ws.getD n 0) 0+2^(ws.getD n 0-1)≤2048∧ws.getD n 0<16:=by
  have h2:=h.ok
  rw[drop_getD hn] at h2
  have:=h2.len1 Om
  rw[h.len] at this
  exact⟨this,h2.w16 _ List.mem_cons_self⟩
theorem Fill.step {L n:Nat} {ws R D F:List Nat} (h:Fill L ws n R D F) (hn:n<ws.length) (h0:ws.getD n 0≠0):Fill L ws (n+1) (R.set (ws.getD n 0) (R.getD (ws.getD n 0) 0+2^(ws.getD n 0-1))) (splN D (R.getD (ws.getD n 0) 0) (List.replicate (2^(ws.getD n 0-1)) (L+1-ws.getD n 0+256*n))) F:=by
  have h1:=h.eq
  have h2:=h.ok
  rw[drop_getD hn] at h1 h2
  unfold fillT at h1
  rw[if_neg h0] at h1
  have hl:(splN D (R.getD (ws.getD n 0) 0) (List.replicate (2^(ws.getD n 0-1)) (L+1-ws.getD n 0+256*n))).length=D.length:=splN_length (by rw[List.length_replicate];exact h2.len1 Om)
  exact⟨h1,h2.step Om hl,by rw[hl];exact h.len⟩
theorem Fill.done {L n:Nat} {ws R D F:List Nat} (h:Fill L ws n R D F) (hn:ws.length≤n):D=F:=by
  have h1:=h.eq
  rwa [List.drop_of_length_le hn] at h1
theorem splN_rep0 (D:List Nat) (a e:Nat):splN D a (List.replicate 0 e)=D:=by simp[splN]
theorem splN_rep {D:List Nat} {a i e:Nat} (h:a+i<D.length):(splN D a (List.replicate i e)).set (a+i) e=splN D a (List.replicate (i+1) e):=by
  have l1:(splN D a (List.replicate i e)).length=D.length:=splN_length (by rw[List.length_replicate];omega)
  have l2:(splN D a (List.replicate (i+1) e)).length=D.length:=splN_length (by rw[List.length_replicate];omega)
  refine outs_done (d:=0) (u:=D.length) (fun j hj=>?_) (by rw[List.length_set,l1,l2]) (by rw[List.length_set,l1];exact Nat.le_refl _)
  rw[getD_set Om,getD_splN (by rw[List.length_replicate];omega),getD_splN (by rw[List.length_replicate];omega),List.length_replicate,List.length_replicate]
  by_cases e1:a+i=j
  · rw[if_pos e1,if_pos Om,getD_rep Om]
  · rw[if_neg e1]
    by_cases e2:a≤j∧j<a+i
    · rw[if_pos e2,if_pos Om,getD_rep Om,getD_rep Om]
    · rw[if_neg e2,if_neg Om]
theorem and255 {n:Nat} (h:n<256):n&&&255=n:=by
  have:=Nat.and_two_pow_sub_one_eq_mod n 8
  rw[Nat.mod_eq_of_lt h] at this;exact this
theorem and15 (n:Nat):n&&&15=n%16:=Nat.and_two_pow_sub_one_eq_mod n 4
theorem and3 (n:Nat):n&&&3=n%4:=Nat.and_two_pow_sub_one_eq_mod n 2
theorem and7 (n:Nat):n&&&7=n%8:=Nat.and_two_pow_sub_one_eq_mod n 3
theorem and31 (n:Nat):n&&&31=n%32:=Nat.and_two_pow_sub_one_eq_mod n 5
theorem and16 (n:Nat):n&&&65535=n%65536:=Nat.and_two_pow_sub_one_eq_mod n 16
theorem Low.at_ {xs bs:List Nat} {len p p':Nat} (h:Low xs len p bs) (e:p'=p):Low xs len p' bs:=e▸h
theorem take_set_snoc {xs:List Nat} {i v:Nat} (h:i<xs.length):(xs.set i v).take (i+1)=xs.take i++[v]:=by
  rw[take_getD (by rw[List.length_set];exact h),getD_set h,if_pos rfl]
  congr 1
  rw[List.take_set]
  exact List.set_eq_of_length_le (by rw[List.length_take];omega)
theorem half_pow {t n r:Nat} (h:t=2^(n-1)) (h1:r<t) (h2:1≤r):2≤n∧t/2^1=2^(n-1-1):=by
  have hn:2≤n:=Classical.byContradiction fun hn=>by
    have e:n-1=0:=Om
    rw[e,Nat.pow_zero] at h;omega
  refine⟨hn,?_⟩
  obtain⟨m,rfl⟩:∃m,n=m+2:=⟨n-2,Om⟩
  rw[h,show m+2-1=m+1 by omega,show m+1-1=m by omega,Nat.pow_succ]
  omega
theorem pow_pred {n:Nat} (h:1≤n):2^n=2*2^(n-1):=by
  obtain⟨m,rfl⟩:∃m,n=m+1:=⟨n-1,Om⟩
  rw[Nat.pow_succ,Nat.add_sub_cancel,Nat.mul_comm]
def Pend (pz:Bool) (left:Nat) (cr er:List Nat):Prop:=(pz=false∧Descr left cr er)∨(pz=true∧0<left∧∃z c t b,er=zerosB z++b∧cr=List.replicate z 0++c::t∧Descr left (c::t) b)
theorem Pend.next {left n:Nat} {t b:List Nat} {l':Nat} (h0:0<left) (h:(0<n∧Descr (left-n) t b)∨(n=0∧∃z c t2 b2,b=zerosB z++b2∧t=List.replicate z 0++c::t2∧Descr left (c::t2) b2)) (hl:l'=left-n):Pend (decide (((n:Nat):Int)=((0:Nat):Int))) l' t b:=by
  subst hl
  rcases h with ⟨h1,h2⟩|⟨h1,h2⟩
  · exact .inl ⟨decide_eq_false Om,h2⟩
  · subst h1;exact .inr ⟨rfl,Om,h2⟩
theorem Pend.end0 {pz:Bool} {left:Nat} {cr er:List Nat} (h:Pend pz left cr er) (h0:left=0):er=[]:=by
  rcases h with ⟨_,h2⟩|⟨_,h2,_⟩
  · exact h2.end0 h0
  · omega
theorem two_of_sum {P:List Nat} (h:AllLe P 63) (hs:P.sum=64):2≤P.length:=by
  match P,h,hs with
  |[],_,hs=>simp at hs
  |[x],h,hs=>have:=h x List.mem_cons_self;simp at hs;omega
  |x::y::t,_,_=>simp
theorem AllLe.front {P t cs:List Nat} {b:Nat} (h:AllLe cs b) (e:P++t=cs):AllLe P b:=fun x hx=>h x (e▸List.mem_append_left _ hx)
theorem div_step (w x c:Nat) (h:w=x/2^c):w/2^2=x/2^(c+2):=by rw[h,Nat.div_div_eq_div_mul, ←Nat.pow_add]
theorem div_lt32 {w x c:Nat} (h:w=x/2^c) (hx:x<4294967296):w<4294967296:=by
  have:=Nat.div_le_self x (2^c);omega
theorem Tab.congr {dt:List Nat} {L:Nat} {cd cd':Nat→Nat × Nat} {S S':Nat→Prop} (h:Tab dt L cd S) (h1:∀c,S' c→S c∧cd c=cd' c):Tab dt L cd' S':=
  ⟨h.L1,h.L16,fun c hc=>by rw[←(h1 c hc).2];exact h.one c (h1 c hc).1,fun c hc v hv he=>by rw[←(h1 c hc).2] at he ⊢;exact h.at_ c (h1 c hc).1 v hv he⟩
def Has (ls:List Nat) (c:Nat):Prop:=1≤ls.getD c 0
theorem tab_ls {ls r dt:List Nat} {L last:Nat} (h:HW ls L last) (hw:WholeL ls) (he:EvenAll ls) (hr:r.length=16) (hst:∀w,0<w→w≤L→r.getD w 0=startW (allW ls L last) w) (hdt:dt.length=2048):
    Tab (fillT L 0 (allW ls L last) r dt) L (cdL ls) (Has ls)∧(fillT L 0 (allW ls L last) r dt).length=2048:=by
  have hL:=h.L11 hw
  have hlen:=allW_length h
  have hl:=h.lt
  have h256:=hw.1
  obtain⟨h1,h2⟩:=tab_of_weights (ws:=allW ls L last) (r:=r) (dt:=dt) h.L1 hL Om allW_le hr hst (by rw[startW_all _ allW_le];exact cells_whole h hw hL) hdt
  refine⟨h1.congr fun c hc=>?_,h2⟩
  obtain⟨h3,h4⟩:=code_eq h hL he hc
  refine⟨⟨Om,?_⟩,h3⟩
  have h5:=h.le_at c
  have h6:1≤ls.getD c 0:=hc
  rw[allW_get h h4];unfold wOf;rw[if_neg Om];omega
theorem RdT.ofBits {xs dt ls t:List Nat} {k len L tt:Nat} (hT:Tab dt L (cdL ls) (Has ls)) (hb:Bytes xs) (ht:4≤tt) (ha:∀c ∈ t,Has ls c) (hl:len=tN (cdL ls) t/8+1) (hv:tailV xs k len=2^tN (cdL ls) t+bitsV (codeBits ls t)):
    RdT xs k len (cdL ls) (Has ls) (BR.init tt xs k len) t∧0<xs.getD (k+(len-1)) 0:=by
  have h1:=bitsV_codeBits ls t fun c hc=>(hT.one c (ha c hc)).2.2.2
  rw[h1] at hv
  obtain⟨h2,h3⟩:=Pos.ofPacked (t:=tt) hb ht hl (tR_lt hT t ha) hv
  exact⟨⟨h2,ha⟩,h3⟩
theorem getD_app_r {a b:List Nat} {i:Nat} (h:a.length≤i):(a++b).getD i 0=b.getD (i-a.length) 0:=by
  simp only[List.getD_eq_getElem?_getD];rw[List.getElem?_append_right h]
theorem getD_app_l {a b:List Nat} {i:Nat} (h:i<a.length):(a++b).getD i 0=a.getD i 0:=by
  simp only[List.getD_eq_getElem?_getD];rw[List.getElem?_append_left h]
theorem tailV_mid {xs a y b:List Nat} {k n:Nat} (h:xs=a++(y++b)) (hk:k=a.length) (hn:n≤y.length):tailV xs k n=tailV y 0 n:=by
  subst h;subst hk
  refine tailV_congr n fun i hi=>?_
  rw[getD_app_r Om,Nat.add_sub_cancel_left,getD_app_l Om,Nat.zero_add]
theorem part_sub {t:List Nat} {q j:Nat} (h:(j+1)*q≤t.length):partT t q j=sub t (q*j) q:=by
  unfold partT sub
  rw[Nat.min_eq_left h,Nat.mul_comm j q,Nat.add_mul,Nat.one_mul,Nat.mul_comm j q,Nat.add_sub_cancel_left]
theorem part_last {t:List Nat} {q m:Nat} (h:t.length=3*q+m) (hm:m≤q):partT t q 3=sub t (q*3) m:=by
  unfold partT sub
  rw[Nat.min_eq_right Om,Nat.mul_comm q 3,h,Nat.add_sub_cancel_left]
theorem four_list {Y:List (List Nat)} (h:Y.length=4):Y=[Y.getD 0 [],Y.getD 1 [],Y.getD 2 [],Y.getD 3 []]:=by
  match Y,h with
  |[a,b,c,d],_=>rfl
structure Four (xs t ls:List Nat) (ev m3 ln0 ln1 ln2 ln3:Nat):Prop where
  len:xs.length=6+ln0+ln1+ln2+ln3
  one:1≤ln0∧1≤ln1∧1≤ln2∧1≤ln3
  j0:xs.getD 0 0=ln0%256∧xs.getD 1 0=ln0/256
  j1:xs.getD 2 0=ln1%256∧xs.getD 3 0=ln1/256
  j2:xs.getD 4 0=ln2%256∧xs.getD 5 0=ln2/256
  s0:ln0=tN (cdL ls) (sub t (ev*0) ev)/8+1∧tailV xs 6 ln0=2^tN (cdL ls) (sub t (ev*0) ev)+bitsV (codeBits ls (sub t (ev*0) ev))∧∀c ∈ sub t (ev*0) ev,Has ls c
  s1:ln1=tN (cdL ls) (sub t (ev*1) ev)/8+1∧tailV xs (6+ln0) ln1=2^tN (cdL ls) (sub t (ev*1) ev)+bitsV (codeBits ls (sub t (ev*1) ev))∧∀c ∈ sub t (ev*1) ev,Has ls c
  s2:ln2=tN (cdL ls) (sub t (ev*2) ev)/8+1∧tailV xs (6+ln0+ln1) ln2=2^tN (cdL ls) (sub t (ev*2) ev)+bitsV (codeBits ls (sub t (ev*2) ev))∧∀c ∈ sub t (ev*2) ev,Has ls c
  s3:ln3=tN (cdL ls) (sub t (ev*3) m3)/8+1∧tailV xs (6+ln0+ln1+ln2) ln3=2^tN (cdL ls) (sub t (ev*3) m3)+bitsV (codeBits ls (sub t (ev*3) m3))∧∀c ∈ sub t (ev*3) m3,Has ls c
  bytes:Bytes xs
theorem Four.of {xs t ls:List Nat} {ev m3:Nat} {Y:List (List Nat)} (hY:Y.length=4) (hp:∀j,j<4→PartOK ls (partT t ev j) (Y.getD j [])) (hx:xs=heads (Y.take 3)++Y.flatten) (ht:t.length=3*ev+m3) (hm:m3≤ev):∃ln0 ln1 ln2 ln3,Four xs t ls ev m3 ln0 ln1 ln2 ln3:=by
  have e:=four_list hY
  have p0:=hp 0 Om;have p1:=hp 1 Om;have p2:=hp 2 Om;have p3:=hp 3 Om
  generalize Y.getD 0 []=y0 at e p0
  generalize Y.getD 1 []=y1 at e p1
  generalize Y.getD 2 []=y2 at e p2
  generalize Y.getD 3 []=y3 at e p3
  subst e
  rw[part_sub Om] at p0 p1 p2
  rw[part_last ht hm] at p3
  have hh:heads ([y0,y1,y2,y3].take 3)=[y0.length%256,y0.length/2^8,y1.length%256,y1.length/2^8,y2.length%256,y2.length/2^8]:=rfl
  have hf:[y0,y1,y2,y3].flatten=y0++(y1++(y2++y3)):=Oi
  rw[hh,hf] at hx
  have l0:=p0.len;have l1:=p1.len;have l2:=p2.len;have l3:=p3.len
  have has:∀{t ys:List Nat},PartOK ls t ys→∀c ∈ t,Has ls c:=fun h c hc=>(h.all c hc).2.1
  refine⟨y0.length,y1.length,y2.length,y3.length,?_⟩
  refine⟨?_,⟨Om,Om,Om,Om⟩,?_,?_,?_,⟨l0.1,?_,has p0⟩,⟨l1.1,?_,has p1⟩,⟨l2.1,?_,has p2⟩,⟨l3.1,?_,has p3⟩,?_⟩
  · rw[hx];simp only[List.length_append,List.length_cons,List.length_nil];omega
  · rw[hx];exact⟨rfl,rfl⟩
  · rw[hx];exact⟨rfl,rfl⟩
  · rw[hx];exact⟨rfl,rfl⟩
  · rw[tailV_mid (k:=6) (n:=y0.length) hx rfl (Nat.le_refl _),l0.1,p0.num]
  · rw[tailV_mid (n:=y1.length) (xs:=xs) (a:=[y0.length%256,y0.length/2^8,y1.length%256,y1.length/2^8,y2.length%256,y2.length/2^8]++y0) (b:=y2++y3) (by rw[hx];simp) Oz (Nat.le_refl _),l1.1,p1.num]
  · rw[tailV_mid (n:=y2.length) (xs:=xs) (a:=[y0.length%256,y0.length/2^8,y1.length%256,y1.length/2^8,y2.length%256,y2.length/2^8]++y0++y1) (b:=y3) (by rw[hx];simp) Oz (Nat.le_refl _),l2.1,p2.num]
  · rw[tailV_mid (n:=y3.length) (xs:=xs) (a:=[y0.length%256,y0.length/2^8,y1.length%256,y1.length/2^8,y2.length%256,y2.length/2^8]++y0++y1++y2) (b:=[]) (by rw[hx];simp) Oz (Nat.le_refl _),l3.1,p3.num]
  · rw[hx]
    intro x hx'
    simp only[List.mem_append] at hx'
    rcases hx' with h|h|h|h|h
    · simp only[List.mem_cons,List.not_mem_nil,or_false] at h
      omega
    · exact p0.bytes x h
    · exact p1.bytes x h
    · exact p2.bytes x h
    · exact p3.bytes x h
theorem flatC_app:∀(P c:List Nat) (s:Nat),flatC s (P++c)=flatC s P++flatC (s+P.length) c
  |[],c,s=>by simp[flatC]
  |n::P,c,s=>by
    simp only[List.cons_append,flatC,flatC_app P c (s+1),List.length_cons,List.append_assoc]
    rw[show s+1+P.length=s+(P.length+1) by omega]
theorem flatC_zeros {c:List Nat} (s:Nat) (h:c.sum=0):flatC s c=[]:=List.length_eq_zero_iff.1 (by rw[flatC_sum,h])
theorem zeros_getD:∀{c:List Nat},c.sum=0→∀i,c.getD i 0=0
  |[],_,i=>by simp
  |x::c,h,0=>by simp only[List.sum_cons] at h;simp;omega
  |x::c,h,i+1=>by
    simp only[List.sum_cons] at h
    rw[List.getD_cons_succ];exact zeros_getD Om i
theorem buildD_congr (log:Nat):∀(t a b:List Nat),(∀s ∈ t,s<a.length∧s<b.length)→(∀s,a.getD s 0=b.getD s 0)→buildD log t a=buildD log t b
  |[],_,_,_,_=>rfl
  |s::t,a,b,h,e=>by
    have hs:=h s List.mem_cons_self
    simp only[buildD]
    rw[e s,buildD_congr log t (a.set s (b.getD s 0+1)) (b.set s (b.getD s 0+1)) (fun x hx=>by rw[List.length_set,List.length_set];exact h x (List.mem_cons_of_mem _ hx)) fun x=>by rw[getD_set hs.1,getD_set hs.2,e x]]
theorem tableF_front {P c:List Nat} (hC:CountsB 6 P) (hs:(P++c).sum=64):tableF 6 (P++c)=tableF 6 P:=by
  have hc:c.sum=0:=by rw[List.sum_append] at hs;have h9:P.sum=64:=hC.sum;omega
  have e:cellsF 6 (P++c)=cellsF 6 P:=by unfold cellsF;rw[flatC_app,flatC_zeros _ hc,List.append_nil]
  unfold tableF
  rw[e]
  refine buildD_congr 6 _ _ _ (fun s hs'=>?_) fun s=>?_
  · obtain⟨i,hi,rfl⟩:=List.getElem_of_mem hs'
    rw[cellsF_length] at hi
    obtain⟨s,k,_,h2,h3,_⟩:=tableF_get hC hi
    have h4:(cellsF 6 P)[i]'(by rw[cellsF_length];exact hi)=s:=by rw[h2];simp[List.getD_eq_getElem?_getD,cellsF_length,hi]
    rw[h4,List.length_append];omega
  · by_cases h:s<P.length
    · exact getD_app_l h
    · rw[getD_app_r Om,zeros_getD hc]
      simp[List.getD_eq_getElem?_getD,List.getElem?_eq_none (Nat.le_of_not_lt h)]
theorem Descr.len6 {cs E:List Nat} (h:Descr 64 cs E):6≤E.length:=by
  obtain⟨n,t,b,hE,_⟩:=h.inv Om
  have:=encV_len (most:=64+1) (v:=n+1)
  have h7:blen (64+1)=7:=Od
  rw[hE,List.length_append];omega
theorem FseBlk.text {cs ws ys P c:List Nat} {p:Nat} (hpk:FsePacked (tableF 6 cs) ws (ys.drop p)) (hsum:cs.sum=64) (hC:CountsB 6 P) (e:cs=P++c) {xs:List Nat} {ki li:Nat} (hyl:ys.length=li) (hxy:∀i,i<li→xs.getD (ki+i) 0=ys.getD i 0):
    ∃A,FseT 6 (tableF 6 P) ws A∧li-p=(12+fN (tableF 6 P) A)/8+1∧tailV xs (ki+p) (li-p)=2^(12+fN (tableF 6 P) A)+((A.getD 0 0*2^6+A.getD 1 0)*2^fN (tableF 6 P) A+fR (tableF 6 P) A):=by
  subst e
  rw[tableF_front hC hsum] at hpk
  obtain⟨A,h1,h2,h3,h4⟩:=hpk.ex
  rw[List.length_drop,hyl] at h3
  refine⟨A,h1,h3,?_⟩
  rw[h3, ←h4]
  refine tailV_congr _ fun i hi=>?_
  rw[Nat.add_assoc,hxy _ Om,Nat.zero_add]
  simp[List.getD_eq_getElem?_getD]
theorem FsePacked.two {T:List Cell} {ws ys:List Nat} (h:FsePacked T ws ys):2≤ys.length:=by
  obtain⟨A,h1,h2,h3,h4⟩:=h.ex;omega
theorem nib_get:∀(ws:List Nat) (i:Nat),AllLe ws 15→(nib ws).getD i 0/16=ws.getD (2*i) 0∧(nib ws).getD i 0%16=ws.getD (2*i+1) 0∧(nib ws).getD i 0<256
  |[],i,_=>by simp[nib]
  |[a],0,h=>by
    have ha:=h a List.mem_cons_self
    simp only[nib,List.getD_cons_zero,Nat.mul_zero,Nat.zero_add,List.getD_cons_succ]
    refine⟨Om,?_,Om⟩
    show a*16%16=0
    omega
  |[a],i+1,h=>by simp[nib,Nat.mul_add,List.getD_eq_getElem?_getD]
  |a::b::r,0,h=>by
    have ha:=h a List.mem_cons_self
    have hb:=h b (List.mem_cons_of_mem _ List.mem_cons_self)
    simp only[nib,List.getD_cons_zero,Nat.mul_zero,Nat.zero_add,List.getD_cons_succ]
    omega
  |a::b::r,i+1,h=>by
    have:=nib_get r i (fun x hx=>h x (List.mem_cons_of_mem _ (List.mem_cons_of_mem _ hx)))
    rw[show 2*(i+1)=2*i+1+1 by omega]
    simp only[nib,List.getD_cons_succ]
    exact this
theorem HW.last1 {ls:List Nat} {L last:Nat} (h:HW ls L last) (hw:WholeL ls):1≤last:=Classical.byContradiction fun hn=>by
  have e:last=0:=Om
  obtain⟨h1,h2,h3⟩:=weights_sum h hw
  subst e
  have h4:cellsW (weightsOf ls L 0)=0:=rfl
  have h5:(2:Nat)^(L-ls.getD 0 0)<2^L:=Nat.pow_lt_pow_right Om Om
  omega
def TreeC (ls ys:List Nat) (L last:Nat):Prop:=(last≤128∧ys=[127+last]++nib (weightsOf ls L last))∨(∃cs b,cs.length=13∧AllLe cs 63∧FseBlk cs (weightsOf ls L last) b∧b.length≤127∧ys=[b.length]++b∧∀P c',cs=P++c'→P.sum=64→AllLe P 31)
theorem FseBlk.long {cs ws b:List Nat} (h:FseBlk cs ws b):3≤b.length:=by
  obtain⟨E,hD,hL,h1,h2,hp⟩:=h.read
  have a:=hp.two
  have c:=hD.len6
  rw[List.length_drop] at a
  omega
theorem TreeC.at_ {ls ys xs:List Nat} {L last ki li x0:Nat} (h:TreeC ls ys L last) (hl:last≤ls.length) (h1:1≤last) (hyl:ys.length=li) (hxy:∀i,i<li→xs.getD (ki+i) 0=ys.getD i 0) (hx0:xs.getD ki 0=x0):
    2≤li∧((last≤128∧x0=127+last∧li=1+(last+1)/2∧∀i,i<(last+1)/2→xs.getD (ki+1+i) 0=(nib (weightsOf ls L last)).getD i 0)∨
      (∃cs b,cs.length=13∧AllLe cs 63∧FseBlk cs (weightsOf ls L last) b∧b.length=x0∧x0≤127∧li=1+x0∧(∀i,i<x0→xs.getD (ki+1+i) 0=b.getD i 0)∧∀P c',cs=P++c'→P.sum=64→AllLe P 31)):=by
  rcases h with ⟨h2,h3⟩|⟨cs,b,h2,h3,h4,h5,h6,h7⟩
  · have hn:(nib (weightsOf ls L last)).length=(last+1)/2:=by rw[nib_length,weightsOf_length hl]
    have hli:li=1+(last+1)/2:=by rw[←hyl,h3,List.length_append,hn];rfl
    refine⟨Om,.inl ⟨h2,?_,hli,fun i hi=>?_⟩⟩
    · have:=hxy 0 Om
      rw[Nat.add_zero,h3] at this
      rw[←hx0,this];rfl
    · rw[Nat.add_assoc,hxy _ Om,h3,getD_app_r Oi,show 1+i-[127+last].length=i by simp]
  · have hbl:=h4.long
    have hli:li=1+b.length:=by rw[←hyl,h6,List.length_append];rfl
    have hx:x0=b.length:=by
      have:=hxy 0 Om
      rw[Nat.add_zero,h6] at this
      rw[←hx0,this];rfl
    refine⟨Om,.inr ⟨cs,b,h2,h3,h4,hx.symm,Om,Om,fun i hi=>?_,h7⟩⟩
    rw[Nat.add_assoc,hxy _ Om,h6,getD_app_r Oi,show 1+i-[b.length].length=i by simp]
theorem FseBlk.first {cs ws b:List Nat} (h:FseBlk cs ws b):b.getD 0 0%16=1:=by
  have hl:=h.long
  obtain⟨E,hD,hL,_⟩:=h.read
  have h1:=(hL.take h.bytes).1
  have h2:=(hL.take h.bytes).2.2
  rw[bitsN_eq h.bytes (m:=b.length) 4 h2,Nat.pow_zero,Nat.div_one] at h1
  have h3:=tailV_byte h.bytes (j:=0) (n:=b.length) Om
  rw[Nat.mul_zero,Nat.pow_zero,Nat.div_one] at h3
  omega
theorem fill4 {D D8:List Nat} {a i e:Nat} (h:D8=splN D a (List.replicate i e)) (hl:a+i+4≤D.length):(((D8.set (a+i) e).set (a+i+1) e).set (a+i+2) e).set (a+i+3) e=splN D a (List.replicate (i+4) e):=by
  subst h
  rw[splN_rep Om,show a+i+1=a+(i+1) by omega,splN_rep Om,show a+i+2=a+(i+1+1) by omega,splN_rep Om,show a+i+3=a+(i+1+1+1) by omega,splN_rep Om]
theorem fill1 {D D8:List Nat} {a i e:Nat} (h:D8=splN D a (List.replicate i e)) (hl:a+i<D.length):D8.set (a+i) e=splN D a (List.replicate (i+1) e):=by
  subst h;exact splN_rep hl
theorem or_byte {a n:Nat} (h:a<256):a|||256*n=a+256*n:=by
  have:=or_shift' (a:=n) (b:=a) (n:=8) h
  rw[show n*2^8=256*n by omega] at this
  omega
theorem or_lt16' {x y:Nat} (h:x<16) (k:y<16):x|||y<16:=Nat.or_lt_two_pow (n:=4) h k
theorem pow_half {w:Nat} (h:1≤w):2^w/2^1=2^(w-1):=by
  obtain⟨m,rfl⟩:∃m,w=m+1:=⟨w-1,Om⟩
  rw[Nat.pow_succ,Nat.add_sub_cancel];omega
theorem pow_four {m:Nat} (h:4≤2^m):2^m%4=0:=by
  have h2:2≤m:=Classical.byContradiction fun hn=>by
    have:=Nat.pow_le_pow_right (show 0<2 by omega) (show m≤1 by omega)
    omega
  obtain⟨k,rfl⟩:∃k,m=k+2:=⟨m-2,Om⟩
  rw[Nat.pow_add];omega
theorem front_get {W ws:List Nat} {n j:Nat} (h:W.take n=ws) (hj:j<n):W.getD j 0=ws.getD j 0:=by
  rw[←h];simp[List.getD_eq_getElem?_getD,List.getElem?_take,hj]
theorem last_get {W ws aw:List Nat} {n x j:Nat} (h:∀j,j<n→W.getD j 0=ws.getD j 0) (hw:ws.length=n) (hl:n<W.length) (e:aw=ws++[x]) (hj:j<n+1):(W.set n x).getD j 0=aw.getD j 0:=by
  subst e
  rw[getD_set hl]
  by_cases e2:n=j
  · subst e2
    rw[if_pos rfl,getD_app_r Om,hw,Nat.sub_self];rfl
  · rw[if_neg e2,getD_app_l Om];exact h j Om
structure WFacts (ws aw:List Nat) (L last nl:Nat):Prop where
  wl:ws.length=last
  wL:∀w ∈ ws,w≤L
  al:aw.length=last+1
  aL:∀w ∈ aw,w≤L
  ea:aw=ws++[L-nl+1]
  L1:1≤L∧L≤11
  nl1:1≤nl∧nl≤L
  last1:1≤last∧last≤255
  sum:cellsW ws+2^(L-nl)=2^L
  suma:cellsW aw=2^L
  log:blen (cellsW ws)=L∧2^(L-1)≤cellsW ws
  ev:2≤aw.count 1∧aw.count 1%2=0
theorem WFacts.of {ls ws aw:List Nat} {L last nl:Nat} (h:HW ls L last) (hw:WholeL ls) (he:EvenAll ls) (h1:ws=weightsOf ls L last) (h2:aw=allW ls L last) (h3:nl=ls.getD last 0):WFacts ws aw L last nl:=by
  subst h1;subst h2;subst h3
  have hl:=h.lt
  have h256:=hw.1
  obtain⟨s1,s2,s3⟩:=weights_sum h hw
  refine⟨weightsOf_length Om,weightsOf_le,allW_length h,allW_le,?_,⟨h.L1,h.L11 hw⟩,⟨s2,s3⟩,⟨h.last1 hw,Om⟩,s1,cells_whole h hw (h.L11 hw),weights_log h hw,longest_even h (h.L11 hw) he⟩
  rw[allW_snoc h]
  have:=h.nz
  unfold wOf
  rw[if_neg this]
  congr 2
  omega
theorem AllLe.of {ws:List Nat} {L:Nat} (h:∀w ∈ ws,w≤L) (i:Nat):ws.getD i 0≤L:=AllLe.at_ (b:=L) h i
theorem count_none {ws:List Nat} {L v:Nat} (h:∀w ∈ ws,w≤L) (hv:L<v):ws.count v=0:=List.count_eq_zero.2 fun hm=>by have:=h v hm;omega
def TreeB (p:Bool) (ls ys:List Nat):Prop:=match p with
  |false=>TreeN ls ys
  |true=>TreeP ls ys
def TextB (f:Bool) (ls t ys:List Nat):Prop:=match f with
  |false=>EvenAll ls∧(∀c ∈ t,c<ls.length∧1≤ls.getD c 0∧ls.getD c 0≤11)∧Bytes ys∧ys.length=tN (cdL ls) t/8+1∧tailV ys 0 (tN (cdL ls) t/8+1)=2^tN (cdL ls) t+bitsV (codeBits ls t)
  |true=>∃Y:List (List Nat),Y.length=4∧(∀j,j<4→PartOK ls (partT t ((t.length+3)/4) j) (Y.getD j []))∧ys=heads (Y.take 3)++Y.flatten
theorem TextB.even {f:Bool} {ls t ys:List Nat} (h:TextB f ls t ys):EvenAll ls:=by
  cases f
  · exact h.1
  · obtain⟨Y,h1,h2,h3⟩:=h
    exact(h2 0 Om).even
theorem tN_11 {ls:List Nat}:∀t:List Nat,(∀c ∈ t,ls.getD c 0≤11)→tN (cdL ls) t≤11*t.length
  |[],_=>by simp[tN]
  |c::t,h=>by
    have h1:=tN_11 t (fun x hx=>h x (List.mem_cons_of_mem _ hx))
    have h2:=h c List.mem_cons_self
    simp only[tN,cdL,List.length_cons]
    show ls.getD c 0+tN (cdL ls) t≤_
    omega
theorem TextB.four {ls t ys:List Nat} (h:TextB true ls t ys) (h6:3*((t.length+3)/4)<t.length):∃ln0 ln1 ln2 ln3,Four ys t ls ((t.length+3)/4) (t.length-3*((t.length+3)/4)) ln0 ln1 ln2 ln3∧ys.length≤1048576:=by
  obtain⟨Y,h1,h2,h3⟩:=h
  obtain⟨a,b,c,d,hF⟩:=Four.of (xs:=ys) (t:=t) (m3:=t.length-3*((t.length+3)/4)) h1 h2 h3 Om Om
  refine⟨a,b,c,d,hF,?_⟩
  have e:=four_list h1
  have p0:=(h2 0 Om).len;have p1:=(h2 1 Om).len;have p2:=(h2 2 Om).len;have p3:=(h2 3 Om).len
  rw[h3,e]
  have hh:(heads ([Y.getD 0 [],Y.getD 1 [],Y.getD 2 [],Y.getD 3 []].take 3)).length=6:=rfl
  rw[List.length_append,hh]
  simp only[List.flatten_cons,List.flatten_nil,List.length_append,List.length_nil]
  omega
theorem TreeB.any {p:Bool} {ls ys:List Nat} (h:TreeB p ls ys) (hw:WholeL ls):TreeAny ys:=by
  cases p
  · exact TreeN.any h fun L la hh=>hh.last1 hw
  · exact TreeP.any h
theorem TreeB.bytes {p:Bool} {ls ys:List Nat} (h:TreeB p ls ys) (hw:WholeL ls):Bytes ys∧2≤ys.length∧ys.length≤200:=by
  cases p
  · obtain⟨L,la,h1,h2,h3⟩:=TreeN.ex h
    have hl:=h1.lt
    have hL:=h1.L11 hw
    have ha:AllLe (weightsOf ls L la) 15:=fun x hx=>Nat.le_trans ((weightsOf_le:AllLe (weightsOf ls L la) L) x hx) Om
    have hwl:=weightsOf_length (ls:=ls) (L:=L) (last:=la) Om
    have h1l:=h1.last1 hw
    subst h3
    refine⟨?_,?_⟩
    · have:=nibs_bytes (X:=weightsOf ls L la) (n:=127+la) (i:=(weightsOf ls L la).length) Om ha
      rwa [List.take_length] at this
    · rw[List.length_append,nib_length,hwl];simp only[List.length_cons,List.length_nil];omega
  · obtain⟨L,la,cs,b,h1,h2,h3,h4,h5,h6⟩:=TreeP.ex h
    have hl:=h4.long
    subst h6
    refine⟨fun x hx=>?_,?_⟩
    · rcases List.mem_append.1 hx with h|h
      · rw[List.mem_singleton] at h;omega
      · exact h4.bytes x h
    · rw[List.length_append];simp only[List.length_cons,List.length_nil];omega
theorem calm_all {cs P0 c0:List Nat} (e:cs=P0++c0) (h0:P0.sum=64) (hs:cs.sum=64) (ha:AllLe P0 31):∀P c',cs=P++c'→P.sum=64→AllLe P 31:=fun P c' e2 _=>by
  have hc:c0.sum=0:=by rw[e,List.sum_append] at hs;omega
  have hz:∀x ∈ c0,x=0:=fun x hx=>by
    obtain⟨i,hi,rfl⟩:=List.getElem_of_mem hx
    have:=zeros_getD hc i
    simpa [List.getD_eq_getElem?_getD,hi] using this
  refine AllLe.front (cs:=cs) (t:=c') (fun x hx=>?_) e2.symm
  rw[e] at hx
  rcases List.mem_append.1 hx with h|h
  · exact ha x h
  · have:=hz x h;omega
theorem bytes_text {ls t:List Nat} (h:∀y ∈ t,y<256∧ls.getD y 0≠0):Bytes t:=fun x hx=>(h x hx).1
theorem cutB {tb b:List Nat} {n:Nat} (h:tb=[b.length]++b) (hn:tb.length=n):(tb.drop 1).take (n-1)=b∧n-1=b.length:=by
  subst h
  rw[←hn]
  refine⟨?_,Oi⟩
  rw[show([b.length]++b).drop 1=b from rfl]
  exact List.take_of_length_le Oi
end Go.Proofs.YtplgbfkpeampgaaGreatDoor
