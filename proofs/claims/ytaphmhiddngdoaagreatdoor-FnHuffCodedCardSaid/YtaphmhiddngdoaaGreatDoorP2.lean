/- The walk's own engine and plain laws, part 2. -/
import Derived.Test.YtaphmhiddngdoaaGreatDoorP1
import Derived.LaidEql
set_option linter.unusedVariables false
set_option linter.unusedSimpArgs false
namespace Go.Proofs.YtaphmhiddngdoaaGreatDoor
theorem gW (P:List Int):(aU P).length=P.length:=by simp[aU]
theorem B8 {P:List Int} {j:Nat} (h:P.length≤j):(aU P).getD j 0=0:=by
  rw[List.getD_eq_getElem?_getD,List.getElem?_eq_none (by rw[gW];exact h)];rfl
theorem yw {P:List Int} {i:Nat}:(aU P).getD i 0=(P.getD i 0).natAbs:=ia rfl _ _
theorem Vm {P:List Int} {i:Nat} {zb:Bool} (h:P.length≤i) (hz:zb=false→∀j,j<i→(aU P).getD j 0<16):zb=false→∀j,(aU P).getD j 0<16:=fun h9 j=>by
  rcases Nat.lt_or_ge j i with h8|h8
  · exact hz h9 j h8
  · rw[B8 Om];decide
theorem KK (n:Nat):n&&&31=n%32:=Nat.and_two_pow_sub_one_eq_mod n 5
theorem yx (C:List Nat) (u s:Nat):(C.take u).count s≤u:=Nat.le_trans List.count_le_length (by rw[List.length_take];omega)
theorem kD {xs:List Int} {i:Nat} {v:Int} (h:i<xs.length):(xs.set i v).take (i+1)=xs.take i++[v]:=by
  rw[List.take_succ_eq_append_getElem (by rw[List.length_set];exact h),List.getElem_set_self,List.take_set];congr 1;exact List.set_eq_of_length_le (by rw[List.length_take];omega)
def pE (pz:Bool) (left:Nat) (cr:List Int) (er:List Nat):Prop:=(pz=false∧cK left cr er)∨(pz=true∧0<left∧∃z c t b,er=bN z++b∧cr=List.replicate z 0++c::t∧cK left (c::t) b)
theorem pE.next {left:Nat} {n:Int} {t:List Int} {b:List Nat} {l':Nat} (h0:0<left) (h:(n≠0∧cK (left-n.natAbs) t b)∨(n=0∧∃z c t2 b2,b=bN z++b2∧t=List.replicate z 0++c::t2∧cK left (c::t2) b2)) (hl:l'=left-n.natAbs):pE (decide (n=((0:Nat):Int))) l' t b:=by
  subst hl;rcases h with ⟨h1,h2⟩|⟨h1,h2⟩
  · exact .inl ⟨decide_eq_false Om,h2⟩
  · subst h1;exact .inr ⟨rfl,by simpa using h0,by simpa using h2⟩
theorem pE.QB {pz:Bool} {left:Nat} {cr:List Int} {er:List Nat} (h:pE pz left cr er) (h0:left=0):er=[]∧cr=[]:=by
  rcases h with ⟨_,h2⟩|⟨_,h2,_⟩
  · exact h2.QB h0
  · omega
theorem cb.two {log:Nat} {cs:List Int} (h:cb log cs):2≤cs.length:=by
  match cs,h with
  |[],h=>have:=h.sum;have h2:=h.size;simp[aU] at this;omega
  |[x],h=>
    have h1:=h.sum;have h2:=h.DS x.natAbs (by simp[aU]);simp[aU] at h1;omega
  |x::y::t,_=>simp
theorem gl.text {cs:List Int} {ws ys:List Nat} {p:Nat} (QP:ja 5 (dY 5 cs) ws (ys.drop p)) {xs:List Nat} {ki li:Nat} (Il:ys.length=li) (uD:∀i,i<li→xs.getD (ki+i) 0=ys.getD i 0):
    ∃A,ju 5 (dY 5 cs) ws A∧(∀i,i<ws.length→ws.length≤i+2→1≤((dY 5 cs).getD (A.getD i 0) (0,0,0)).2.1)∧li-p=(2*5+fN (dY 5 cs) A)/8+1∧tailV xs (ki+p) (li-p)=2^(2*5+fN (dY 5 cs) A)+((A.getD 0 0*2^5+A.getD 1 0)*2^fN (dY 5 cs) A+fR (dY 5 cs) A):=by
  obtain⟨A,h1,h5,h2,h3,h4⟩:=QP.ex;rw[List.length_drop,Il] at h3;refine⟨A,h1,h5,h3,?_⟩;rw[h3, ←h4];refine jl _ fun i hi=>?_
  rw[Nat.add_assoc,uD _ Om,Nat.zero_add];simp[List.getD_eq_getElem?_getD]
theorem gl.first {cs:List Int} {ws b:List Nat} (h:gl 5 cs ws b):b.getD 0 0%16=0:=by
  have hl:=h.QL;obtain⟨E,hD,hL,_⟩:=h.read;have h1:=(hL.take h.bytes).1;have h2:=(hL.take h.bytes).2.2;rw[wI h.bytes (m:=b.length) 4 h2,Nat.pow_zero,Nat.div_one] at h1;have h3:=rq h.bytes (j:=0) (n:=b.length) Om;rw[Nat.mul_zero,Nat.pow_zero,Nat.div_one] at h3;omega
def Ho (ls:List Nat) (nA n i:Nat) (L:List Cell):Prop:=∀y,y<nA→(n<ls.getD y 0∨(y<i∧ls.getD y 0=n))→ls.getD y 0≤11→∃c ∈ L,c.1=y
theorem Hp {ls:List Nat} {nA n:Nat} {P:List Cell} (h:∀y,y<nA→n<ls.getD y 0→ls.getD y 0≤11→∃c ∈ P,c.1=y):Ho ls nA n 0 P:=fun y h1 h2 h3=>h y h1 Om h3
theorem KL {ls:List Nat} {nA n i:Nat} {P:List Cell} (h:Ho ls nA n i P) (hn:ls.getD i 0≠n):Ho ls nA n (i+1) P:=fun y h1 h2 h3=>h y h1 (by
  rcases h2 with h2|⟨h2,h4⟩
  · exact .inl h2
  · refine .inr ⟨?_,h4⟩;rcases Nat.lt_or_eq_of_le (Nat.le_of_lt_succ h2) with h5|h5
    · exact h5
    · subst h5;exact absurd h4 hn) h3
theorem KM {ls:List Nat} {nA n i:Nat} {P:List Cell} {c:Cell} (h:Ho ls nA n i P) (hc:c.1=i):Ho ls nA n (i+1) (P++[c]):=fun y h1 h2 h3=>by
  by_cases e:y=i
  · subst e;exact⟨c,Oi,hc⟩
  · obtain⟨d,hd,h5⟩:=h y h1 Om h3;exact⟨d,List.mem_append_left _ hd,h5⟩
theorem Vn {L:List Cell} {y n:Nat} (h:∃c ∈ L,c.1=y) (hl:L.length=n):∃j,j<n∧(L.getD j (0,0,0)).1=y:=by
  obtain⟨c,hc,h1⟩:=h;obtain⟨j,hj,rfl⟩:=List.getElem_of_mem hc;exact⟨j,Om,by simpa [List.getD_eq_getElem?_getD,hj] using h1⟩
theorem QQ {T:List J1} {c:Nat} {v:J1} (h:c<T.length):((T.set c v).getD c pk).1=v.1:=by
  simp[List.getD_eq_getElem?_getD,h]
theorem Hq {xs ys:List Nat} {n i:Nat} (hb:jt xs) (hn:xs.length=n) (hB:Bytes ys) (hL:ys.length=(n+7)/8) (hi:i<n) (hV:tailV ys 0 ((n+7)/8)=bitsV (xs.take i)*2^(n-i)):
    tailV (ys.set ((n-1-i)/8) (ys.getD ((n-1-i)/8) 0|||xs.getD i 0*2^((n-1-i)%8))) 0 ((n+7)/8)=bitsV (xs.take (i+1))*2^(n-(i+1))∧
      Bytes (ys.set ((n-1-i)/8) (ys.getD ((n-1-i)/8) 0|||xs.getD i 0*2^((n-1-i)%8)))∧ys.getD ((n-1-i)/8) 0|||xs.getD i 0*2^((n-1-i)%8)<256:=by
  have hx:=hb.at_ i;have e1:n-1-i+1=n-i:=Om;have hz:tailV ys 0 ((n+7)/8)%2^(n-1-i+1)=0:=by
    rw[hV,e1,Nat.mul_mod_left]
  obtain⟨h1,h2,h3⟩:=Ql (out:=ys) (at_:=n-1-i) hB hL Om hx hz;refine⟨?_,h2,h3⟩;rw[h1,hV,cP Om,lC];have e2:2^(n-i)=2*2^(n-(i+1)):=by rw[←Nat.pow_succ'];congr 1;omega
  rw[e2,show n-1-i=n-(i+1) by omega];simp only[bitsV,List.length_nil,List.length_singleton,Nat.pow_zero,Nat.mul_one,Nat.add_zero,Nat.pow_one];rw[Nat.add_mul, ←Nat.mul_assoc]
theorem Ec {P C ys:List Nat} {m i:Nat} (hP:P=[1]++C) (Pe:P.length=m) (hi:m≤i) (hV:tailV ys 0 ((m+7)/8)=bitsV (P.take i)*2^(m-i)):tailV ys 0 ((m-1)/8+1)=2^(m-1)+bitsV C:=by
  have hl:m=C.length+1:=by rw[←Pe,hP,List.length_append];simp;omega
  rw[show(m-1)/8+1=(m+7)/8 by omega,hV,List.take_of_length_le Om,show m-i=0 by omega,Nat.pow_zero,Nat.mul_one,hP,lC,hl,Nat.add_sub_cancel];simp[bitsV]
structure qx (P:List Nat) (C nb n V:Nat):Prop where
  by_:Bytes P
  lt:C<2^nb
  small:nb≤63
  len:8*P.length+nb=n
  val:tailV P 0 P.length+C*2^(8*P.length)=V
theorem lH (P:List Nat):∀(Q:List Nat) (k:Nat),k≤Q.length→tailV (P++Q) 0 (P.length+k)=tailV P 0 P.length+tailV Q 0 k*2^(8*P.length)
  |Q,0,_=>by
    simp only[tailV,Nat.zero_mul,Nat.add_zero];exact jl _ fun i hi=>by simp[List.getD_eq_getElem?_getD,List.getElem?_append_left hi]
  |Q,k+1,h=>by
    have ih:=lH P Q k Om;rw[←Nat.add_assoc];simp only[tailV,ih,Nat.zero_add];have e:(P++Q).getD (P.length+k) 0=Q.getD k 0:=by
      simp only[List.getD_eq_getElem?_getD];rw[List.getElem?_append_right Om,Nat.add_sub_cancel_left]
    rw[e,Nat.add_mul,Nat.mul_add,Nat.pow_add,Nat.mul_comm (2^(8*P.length)) (2^(8*k)),Nat.mul_assoc,Nat.add_assoc]
def et (C k:Nat):List Nat:=(List.range k).map fun i=>C/2^(8*i)%256
theorem kK (C k:Nat):(et C k).length=k:=by simp[et]
theorem Ed {C k i:Nat} (h:i<k):(et C k).getD i 0=C/2^(8*i)%256:=by simp[et,List.getD_eq_getElem?_getD,h]
theorem s6 (C k:Nat):Bytes (et C k):=fun x hx=>by
  obtain⟨i,_,rfl⟩:=List.mem_map.1 hx;exact Nat.mod_lt _ Od
theorem vc (C k:Nat):et C (k+1)=et C k++[C/2^(8*k)%256]:=by simp[et,List.range_succ]
theorem pF (C k:Nat):∀j,j≤k→tailV (et C k) 0 j=C%2^(8*j)
  |0,_=>by simp[tailV,Nat.mod_one]
  |j+1,h=>by
    simp only[tailV,Nat.zero_add];rw[pF C k j Om,Ed Om,Nat.mul_add,Nat.pow_add,Nat.mod_mul];show _+C/2^(8*j)%256*2^(8*j)=_+2^(8*j)*(C/2^(8*j)%256);rw[Nat.mul_comm (C/2^(8*j)%256)]
section
variable {P:List Nat} {C nb n V:Nat}
theorem qx.add (h:qx P C nb n V) {x b:Nat} (hx:x<2^b) (hb:nb+b≤63):qx P (C+x*2^nb) (nb+b) (n+b) (V+x*2^n):=by
  refine⟨h.by_,?_,hb,by have:=h.len;omega,?_⟩
  · have h1:=h.lt;have h2:(x+1)*2^nb≤2^b*2^nb:=Nat.mul_le_mul_right _ hx;rw[Nat.add_mul,Nat.one_mul] at h2;rw[Nat.add_comm nb b,Nat.pow_add];omega
  · rw[Nat.add_mul, ←Nat.add_assoc,h.val,Nat.mul_assoc, ←Nat.pow_add,show nb+8*P.length=n by have:=h.len;omega]
theorem qx.flush (h:qx P C nb n V) {k:Nat} (hk:8*k≤nb):qx (P++et C k) (C/2^(8*k)) (nb-8*k) n V:=by
  have hl:(P++et C k).length=P.length+k:=by rw[List.length_append,kK]
  refine⟨fun x hx=>(List.mem_append.1 hx).elim (h.by_ x) (s6 C k x),?_,by have:=h.small;omega,by rw[hl];have:=h.len;omega,?_⟩
  · have h1:=h.lt;rw[Nat.div_lt_iff_lt_mul (Nat.two_pow_pos _), ←Nat.pow_add,show nb-8*k+8*k=nb by omega];exact h1
  · rw[hl,lH P _ k (by rw[kK];exact Nat.le_refl _),pF C k k (Nat.le_refl _), ←h.val,Nat.mul_add,Nat.pow_add,Nat.mul_comm (2^(8*P.length)), ←Nat.mul_assoc,Nat.add_assoc, ←Nat.add_mul];congr 2;have:=Nat.mod_add_div C (2^(8*k));rw[Nat.mul_comm (2^(8*k))] at this;exact this
theorem qx.align (h:qx P C nb n V) {k:Nat} (hk:k=(nb+7)/8):Bytes (P++et C k)∧(P++et C k).length=(n+7)/8∧tailV (P++et C k) 0 ((n+7)/8)=V:=by
  have hn:=h.len;have hl:(P++et C k).length=P.length+k:=by rw[List.length_append,kK]
  have yl:P.length+k=(n+7)/8:=Om;refine⟨fun x hx=>(List.mem_append.1 hx).elim (h.by_ x) (s6 C k x),Om,?_⟩;rw[←yl,lH P _ k (by rw[kK];exact Nat.le_refl _),pF C k k (Nat.le_refl _)];have h1:=h.lt;have h2:2^nb≤2^(8*k):=Nat.pow_le_pow_right Om Om;rw[Nat.mod_eq_of_lt Om,h.val]
end
theorem F0 (C:Nat):[C%256]=et C 1:=by simp[et]
theorem AA (C:Nat):[C%256,C/2^8%256]=et C 2:=by simp[et,List.range_succ]
theorem F1 (C:Nat):[C%256,C/2^8%256,C/2^16%256]=et C 3:=by simp[et,List.range_succ]
theorem vM (C:Nat):[C%256,C/2^8%256,C/2^16%256,C/2^24%256]=et C 4:=by simp[et,List.range_succ]
theorem rE {C x nb:Nat} (h:C<2^nb):C|||x*2^nb=C+x*2^nb:=by rw[fV h,Nat.add_comm]
theorem AB:Array.range 4= #[0,1,2,3]:=by decide
def jJ:List Nat:=[0,1,3,7,15,31,63,127,255,511,1023,2047,4095,8191,16383,32767,65535,65535,65535,65535,65535,65535,65535,65535,65535,65535,0,0,0,0,0,0]
theorem KN {v b:Nat} (h:b≤16):v&&&jJ.getD b 0=v%2^b:=by
  have e:jJ.getD b 0=2^b-1:=by
    have:∀b,b<17→jJ.getD b 0=2^b-1:=Od;exact this b Om
  rw[e,Nat.and_two_pow_sub_one_eq_mod]
theorem QR {v b:Nat} (h1:1≤b) (h:b≤16):v*2^(16-b)%65536/2^(16-b)=v%2^b:=by
  have e:65536=2^b*2^(16-b):=by rw[←Nat.pow_add,show b+(16-b)=16 by omega]
  rw[e,Nat.mul_mod_mul_right,Nat.mul_div_cancel _ (Nat.two_pow_pos _)]
theorem F2 (b:Nat):jJ.getD b 0<65536:=by
  rcases Nat.lt_or_ge b 32 with h|h
  · have:∀b,b<32→jJ.getD b 0<65536:=Od;exact this b h
  · rw[List.getD_eq_getElem?_getD,List.getElem?_eq_none (by simpa [jJ] using h)];decide
theorem qx.Vo {P:List Nat} {C nb n V:Nat} (h:qx P C nb n V):qx P (C/2^(8*0)) (nb-8*0) n V:=by simpa using h
theorem uE {L n:Nat} (hL:L≤6):kB L n≤393216:=by
  unfold kB;split
  · have:=Nat.sub_le (L*65536) (2^L);omega
  · have:=Nat.sub_le ((L-(aj (n-1)-1))*65536) (n*2^(L-(aj (n-1)-1)));have:(L-(aj (n-1)-1))*65536≤6*65536:=Nat.mul_le_mul_right _ Om;omega
theorem Ee {x b nb:Nat} (h:x<2^b) (hb:nb+b≤63):x*2^nb<9223372036854775808:=by
  have h1:x*2^nb<2^b*2^nb:=Nat.mul_lt_mul_of_pos_right h (Nat.two_pow_pos _);rw[←Nat.pow_add] at h1;have h2:2^(b+nb)≤2^63:=Nat.pow_le_pow_right Om Om;omega
theorem zr {C nb:Nat} (h:C<2^nb) (hb:nb≤63):C<9223372036854775808:=by
  have h2:2^nb≤2^63:=Nat.pow_le_pow_right Om hb;omega
structure jv (L:Nat) (Cc ns S:List Nat) (TT:List (Int × Nat)):Prop where
  laid:jq L Cc ns
  lg:L=5∨L=6
  st:∀s j,j<ns.getD s 0→S.getD (eC ns s+j) 0=2^L+occC Cc s j
  tt:∀s,1≤ns.getD s 0→TT.getD s (0,0)=(((eC ns s:Nat):Int)-((ns.getD s 0:Nat):Int),kB L (ns.getD s 0))
  Ef:TT.length=256
  sl:S.length=2^L
  sum:ns.sum=2^L
def wA (L:Nat) (Cc ns X:List Nat) (N i:Nat):Nat:=(encA L Cc ns (X.take N)).getD i 0
def kT (L:Nat) (Cc ns X:List Nat) (N k V0:Nat) (P:List Nat) (C nb i:Nat):Prop:=
  qx P C nb (8*k+fN (buildD L Cc ns) ((encA L Cc ns (X.take N)).drop i)) (V0+fR (buildD L Cc ns) ((encA L Cc ns (X.take N)).drop i)*2^(8*k))
section
variable {L:Nat} {Cc ns S X:List Nat} {TT:List (Int × Nat)} {N i k V0:Nat}
theorem s7 {X:List Nat} {N i:Nat} (h:i<N):(X.take N).getD i 0=X.getD i 0:=by simp[List.getD_eq_getElem?_getD,List.getElem?_take,h]
theorem jv.mB (h:jv L Cc ns S TT) (s:Nat):eC ns s+ns.getD s 0≤2^L:=by
  rw[←h.sum, ←ed];exact lG
theorem jv.some (h:jv L Cc ns S TT) (hN:N≤X.length) (hs:∀s ∈ X.take N,1≤ns.getD s 0) (hi:i<N):1≤ns.getD (X.getD i 0) 0∧ns.getD (X.getD i 0) 0<2^L:=by
  refine⟨hs _ ?_,h.laid.le _⟩;rw[←s7 hi];have:i<(X.take N).length:=by rw[List.length_take];omega
  exact wK this
theorem jv.Vq (h:jv L Cc ns S TT) (hs:∀s ∈ X.take N,1≤ns.getD s 0) (i:Nat):wA L Cc ns X N i<2^L:=h.laid.Ah hs i
theorem jv.first (h:jv L Cc ns S TT) (hN:N≤X.length) (hs:∀s ∈ X.take N,1≤ns.getD s 0) (hi:i<N) (h2:N≤i+2):S.getD (eC ns (X.getD i 0)) 0=wA L Cc ns X N i+2^L:=by
  have hl:(X.take N).length=N:=by rw[List.length_take];omega
  have h1:=(h.some hN hs hi).1;have h3:=h.st (X.getD i 0) 0 Om;rw[Nat.add_zero] at h3;rw[h3,wA,uu i (X.take N) Om Om,s7 hi,Nat.add_comm]
theorem jv.next (h:jv L Cc ns S TT) (hN:N≤X.length) (hs:∀s ∈ X.take N,1≤ns.getD s 0) (hi:i+2<N):
    S.getD (eC ns (X.getD i 0)+((wA L Cc ns X N (i+2)+2^L)/2^br L (ns.getD (X.getD i 0) 0) (wA L Cc ns X N (i+2)+2^L)-ns.getD (X.getD i 0) 0)) 0=wA L Cc ns X N i+2^L:=by
  have hl:(X.take N).length=N:=by rw[List.length_take];omega
  obtain⟨h1,h2⟩:=h.some hN hs (i:=i) Om;have hw:=h.Vq hs (i+2);obtain⟨e1,e2,e3⟩:=lW h1 (Nat.le_of_lt h2) (c:=wA L Cc ns X N (i+2)+2^L) ⟨Om,by rw[Nat.pow_succ];omega⟩;rw[h.st _ _ Om];have e4:=sO (L:=L) (C:=Cc) (ns:=ns) i (X.take N) Om;rw[s7 (show i<N by omega)] at e4;unfold BJ at e4;rw[show wA L Cc ns X N i=_ from e4,Nat.add_comm]
  rfl
theorem kT.begin (hN:N≤X.length) {P:List Nat} (hP:Bytes P) (hk:P.length=k) (hV:tailV P 0 k=V0) (hi:N≤i+2):kT L Cc ns X N k V0 P 0 0 i:=by
  subst hk;obtain⟨e1,e2⟩:=pj (T:=buildD L Cc ns) (at_:=encA L Cc ns (X.take N)) (i:=i) (by rw[gE,List.length_take];omega);unfold kT;rw[e1,e2];exact⟨hP,Od,Od,Om,(by rw[hV])⟩
theorem kT.step (h:jv L Cc ns S TT) (hN:N≤X.length) (hs:∀s ∈ X.take N,1≤ns.getD s 0) {P:List Nat} {C nb:Nat} (hw:kT L Cc ns X N k V0 P C nb (i+1)) (hi:i+2<N) (hb:nb≤56):
    kT L Cc ns X N k V0 P (C+(wA L Cc ns X N (i+2)+2^L)%2^br L (ns.getD (X.getD i 0) 0) (wA L Cc ns X N (i+2)+2^L)*2^nb) (nb+br L (ns.getD (X.getD i 0) 0) (wA L Cc ns X N (i+2)+2^L)) i:=by
  have hl:(X.take N).length=N:=by rw[List.length_take];omega
  obtain⟨h1,h2⟩:=h.some hN hs (i:=i) Om;have hwl:=h.Vq hs (i+2);obtain⟨e1,e2,e3⟩:=lW h1 (Nat.le_of_lt h2) (c:=wA L Cc ns X N (i+2)+2^L) ⟨Om,by rw[Nat.pow_succ];omega⟩;obtain⟨b1,b2⟩:=h.laid.bits hs (i:=i) Om;rw[s7 (show i<N by omega)] at b1 b2;have hlg:=h.lg;unfold kT at hw ⊢;have ha:=hw.add (x:=(wA L Cc ns X N (i+2)+2^L)%2^br L (ns.getD (X.getD i 0) 0) (wA L Cc ns X N (i+2)+2^L)) (Nat.mod_lt _ (Nat.two_pow_pos _)) Om;rw[b1,b2];have e4:∀a b c d e f:Nat,qx P a b c d→c=e→d=f→qx P a b e f:=fun a b c d e f h h1 h2=>h1▸h2▸h
  refine e4 _ _ _ _ _ _ ha (by show 8*k+_+br _ _ (wA L Cc ns X N (i+2)+2^L)=8*k+(br _ _ (wA L Cc ns X N (i+2)+2^L)+_);omega) ?_;rw[Nat.add_mul, ←Nat.add_assoc,Nat.add_right_comm,Nat.mul_assoc, ←Nat.pow_add];congr 3;rw[Nat.add_comm]
theorem kT.lt {P:List Nat} {C nb:Nat} (h:kT L Cc ns X N k V0 P C nb i):C<2^nb:=qx.lt h
theorem F3 (h:jv L Cc ns S TT) {n c:Nat} (h1:1≤n) (hn:n<2^L) (hc:2^L≤c∧c<2^(L+1)):br L n c≤6:=by
  have:=(lW h1 (Nat.le_of_lt hn) hc).1;rcases h.lg with rfl|rfl<;>omega
theorem B9 (h:jv L Cc ns S TT) (hN:N≤X.length) (hs:∀s ∈ X.take N,1≤ns.getD s 0):∀d i,N-i=d→fN (buildD L Cc ns) ((encA L Cc ns (X.take N)).drop i)≤6*d
  |0,i,hd=>by
    have:=(pj (T:=buildD L Cc ns) (at_:=encA L Cc ns (X.take N)) (i:=i) (by rw[gE,List.length_take];omega)).1;omega
  |d+1,i,hd=>by
    have hl:(X.take N).length=N:=by rw[List.length_take];omega
    have ih:=B9 h hN hs d (i+1) Om;rcases Nat.lt_or_ge (i+2) N with h2|h2
    · obtain⟨b1,b2⟩:=h.laid.bits hs (i:=i) Om;obtain⟨h3,h4⟩:=h.some hN hs (i:=i) Om;rw[s7 (show i<N by omega)] at b1;have hw:=h.Vq hs (i+2);have:=F3 h (n:=ns.getD (X.getD i 0) 0) (c:=(encA L Cc ns (X.take N)).getD (i+2) 0+2^L) h3 h4 ⟨Om,by rw[Nat.pow_succ];unfold wA at hw;omega⟩;omega
    · have:=(pj (T:=buildD L Cc ns) (at_:=encA L Cc ns (X.take N)) (i:=i) (by rw[gE,List.length_take];omega)).1;omega
end
def fT (c:Int × Nat):List Value:=[.int .i32 c.1,.int .u32 ((c.2:Nat):Int)]
theorem dZ (c:Int × Nat):(fT c).length=2:=rfl
theorem akA (x:Nat):x&&&2=x/2%2*2:=by
  apply Nat.eq_of_testBit_eq;intro i;rw[Nat.testBit_and,show(2:Nat)=2^1 from rfl,Nat.testBit_two_pow,show x/2^1%2^1*2^1=2^1*(x/2^1%2^1) by rw[Nat.mul_comm],Nat.testBit_two_pow_mul,Nat.testBit_mod_two_pow,Nat.testBit_div_two_pow];rcases Nat.lt_or_ge i 1 with h|h
  · have:i=0:=Om;subst this;simp
  · rcases Nat.lt_or_ge 1 i with h2|h2
    · rw[show decide (1=i)=false by simp;omega,show decide (i-1<1)=false by simp;omega];simp
    · have:i=1:=Om;subst this;simp
section
variable {L:Nat} {Cc ns S X:List Nat} {TT:List (Int × Nat)} {N i i1 i2 k V0:Nat}
theorem jv.jb (h:jv L Cc ns S TT) {x:Nat} (hx:1≤ns.getD x 0):Value.agg (fT (TT.getD x (0,0))).toArray=Value.agg #[.int .i32 (((eC ns x:Nat):Int)-((ns.getD x 0:Nat):Int)),.int .u32 ((kB L (ns.getD x 0):Nat):Int)]:=by
  rw[h.tt x hx];rfl
theorem jv.pG (h:jv L Cc ns S TT) (hN:N≤X.length) (hs:∀s ∈ X.take N,1≤ns.getD s 0) (hi:i2<N) (h2:i2=i+2):
    S.getD (eC ns (X.getD i 0)+((wA L Cc ns X N i2+2^L)/2^br L (ns.getD (X.getD i 0) 0) (wA L Cc ns X N i2+2^L)-ns.getD (X.getD i 0) 0)) 0=wA L Cc ns X N i+2^L:=by
  subst h2;exact h.next hN hs hi
theorem kT.pH (h:jv L Cc ns S TT) (hN:N≤X.length) (hs:∀s ∈ X.take N,1≤ns.getD s 0) {P:List Nat} {C nb:Nat} (hw:kT L Cc ns X N k V0 P C nb i1) (hi:i2<N) (h1:i1=i+1) (h2:i2=i+2) (hb:nb≤56):
    kT L Cc ns X N k V0 P (C+(wA L Cc ns X N i2+2^L)%2^br L (ns.getD (X.getD i 0) 0) (wA L Cc ns X N i2+2^L)*2^nb) (nb+br L (ns.getD (X.getD i 0) 0) (wA L Cc ns X N i2+2^L)) i:=by
  subst h1;subst h2;exact hw.step h hN hs hi hb
theorem jv.oF (h:jv L Cc ns S TT) (hs:∀s ∈ X.take N,1≤ns.getD s 0) (i:Nat):2^L≤wA L Cc ns X N i+2^L∧wA L Cc ns X N i+2^L<2^(L+1):=by
  have:=h.Vq (X:=X) (N:=N) hs i;rw[Nat.pow_succ];omega
theorem jv.QS (h:jv L Cc ns S TT) (hs:∀s ∈ X.take N,1≤ns.getD s 0) (i:Nat):wA L Cc ns X N i+2^L<65536:=by
  have:=h.Vq (X:=X) (N:=N) hs i;rcases h.lg with rfl|rfl<;>omega
theorem kT.small (h:jv L Cc ns S TT) (hN:N≤X.length) (hs:∀s ∈ X.take N,1≤ns.getD s 0) (hk:k≤1000) (uF:N≤255) (i:Nat):8*k+fN (buildD L Cc ns) ((encA L Cc ns (X.take N)).drop i)≤10000:=by
  have:=B9 h hN hs (N-i) i rfl;omega
theorem kT.KO (h:jv L Cc ns S TT) (hN:N≤X.length) (hs:∀s ∈ X.take N,1≤ns.getD s 0) (hi:i<N) (j:Nat):br L (ns.getD (X.getD i 0) 0) (wA L Cc ns X N j+2^L)≤6:=by
  obtain⟨h1,h2⟩:=h.some hN hs hi;exact F3 h h1 h2 (h.oF hs j)
theorem kT.fin (h:jv L Cc ns S TT) (hs:∀s ∈ X.take N,1≤ns.getD s 0) {P:List Nat} {m n V:Nat} (hi0:i=0) (S9:i1=i+1)
    (hn:n=8*k+fN (buildD L Cc ns) ((encA L Cc ns (X.take N)).drop i)+L+L) (hV:V=V0+fR (buildD L Cc ns) ((encA L Cc ns (X.take N)).drop i)*2^(8*k)+(wA L Cc ns X N i1+2^L)%2^L*2^(8*k+fN (buildD L Cc ns) ((encA L Cc ns (X.take N)).drop i))+(wA L Cc ns X N i+2^L)%2^L*2^(8*k+fN (buildD L Cc ns) ((encA L Cc ns (X.take N)).drop i)+L))
    (hm:m=(n+1+7)/8) (ht:tailV P 0 m=2^n+V):
    m=k+(2*L+fN (buildD L Cc ns) (encA L Cc ns (X.take N)))/8+1∧tailV P 0 m=V0+2^(8*k)*(2^(2*L+fN (buildD L Cc ns) (encA L Cc ns (X.take N)))+(((encA L Cc ns (X.take N)).getD 0 0*2^L+(encA L Cc ns (X.take N)).getD 1 0)*2^fN (buildD L Cc ns) (encA L Cc ns (X.take N))+fR (buildD L Cc ns) (encA L Cc ns (X.take N)))):=by
  subst hi0;subst S9;rw[List.drop_zero] at hn hV;have e0:(wA L Cc ns X N 0+2^L)%2^L=(encA L Cc ns (X.take N)).getD 0 0:=by rw[Nat.add_mod_right];exact Nat.mod_eq_of_lt (h.Vq hs 0)
  have e1:(wA L Cc ns X N (0+1)+2^L)%2^L=(encA L Cc ns (X.take N)).getD 1 0:=by rw[Nat.add_mod_right];exact Nat.mod_eq_of_lt (h.Vq hs _)
  rw[e0,e1] at hV;obtain⟨f,hf⟩:∃z,z=fN (buildD L Cc ns) (encA L Cc ns (X.take N)):=⟨_,rfl⟩;obtain⟨r,hr⟩:∃z,z=fR (buildD L Cc ns) (encA L Cc ns (X.take N)):=⟨_,rfl⟩;obtain⟨a0,Im⟩:∃z,z=(encA L Cc ns (X.take N)).getD 0 0:=⟨_,rfl⟩;obtain⟨a1,Pf⟩:∃z,z=(encA L Cc ns (X.take N)).getD 1 0:=⟨_,rfl⟩;rw[←hf] at hn hV ⊢;rw[←hr] at hV ⊢;rw[←Im, ←Pf] at hV ⊢;refine⟨Om,?_⟩;rw[ht,hV,hn];rw[show 8*k+f+L+L=8*k+(2*L+f) by omega,show 8*k+f+L=8*k+(L+f) by omega];simp only[Nat.pow_add,Nat.mul_add,Nat.add_mul,Nat.two_mul];have g1:2^(8*k)*(a0*2^L*2^f)=a0*(2^(8*k)*(2^L*2^f)):=by ac_rfl
  have g2:2^(8*k)*(a1*2^f)=a1*(2^(8*k)*2^f):=by ac_rfl
  rw[g1,g2,Nat.mul_comm (2^(8*k)) r];omega
end
end Go.Proofs.YtaphmhiddngdoaaGreatDoor
namespace Go.Proofs.YtaphmhiddngdoaaGreatDoor
open Go
theorem Hr {k:IntKind} {Z:List Int} {xs:List Nat} (hl:Z.length=xs.length) (h:∀u,u<xs.length→Z.getD u 0=((xs.getD u 0:Nat):Int)):ints k Z=ae k xs:=by
  have e:Z=xs.map Int.ofNat:=by
    apply List.ext_getElem (by simpa using hl);intro i h1 h2;have:=h i Om;simpa [List.getD_eq_getElem?_getD,h1,show i<xs.length by omega] using this
  rw[e,G7]
def F4 (Φ:List (Nat × Nat × Nat)→Prop) (v:Value) (l':List aV):Prop:=∃q b o cs cap xs n,v=.tuple #[.slice q n cap,.bool true]∧GS q b o cs 3 cap∧n≤cap∧cs.take (n*3)=rows f3 xs∧xs.length=n∧Φ xs∧l'=[⟨b,o,cs,none⟩]
theorem F4.of {Φ:List (Nat × Nat × Nat)→Prop} {q:Option Addr} {n cap:Nat} {l':List aV} (h:FF Φ (.tuple #[.slice q n cap,.bool true]) l'):F4 Φ (.tuple #[.slice q n cap,.bool true]) l':=by
  obtain⟨ok,q',b,o,cs,lR,xs,n',h1,h2,h3,h4,h5,h6,h7⟩:=h;simp only[Value.tuple.injEq,Array.mk.injEq,List.cons.injEq,Value.slice.injEq,Value.bool.injEq,and_true] at h1;obtain⟨⟨rfl,rfl,rfl⟩,rfl⟩:=h1;exact⟨q,b,o,cs,cap,xs,n,rfl,h2,h3,h4,h5,h6 rfl,h7⟩
end Go.Proofs.YtaphmhiddngdoaaGreatDoor
namespace Go.Proofs.YtaphmhiddngdoaaGreatDoor
def Lz (L sz:Nat):Prop:=(L=5∧sz=32)∨(L=6∧sz=64)
section
variable {L sz:Nat}
theorem Lz.pow (h:Lz L sz):sz=2^L:=by rcases h with ⟨rfl,rfl⟩|⟨rfl,rfl⟩<;>rfl
theorem Lz.shl (h:Lz L sz):1*2^L%4294967296=sz:=by rcases h with ⟨rfl,rfl⟩|⟨rfl,rfl⟩<;>rfl
theorem Lz.QT (h:Lz L sz) (x:Nat):x&&&(sz-1)=x%sz:=by
  rcases h with ⟨rfl,rfl⟩|⟨rfl,rfl⟩
  · exact Nat.and_two_pow_sub_one_eq_mod x 5
  · exact Nat.and_two_pow_sub_one_eq_mod x 6
theorem Lz.half (h:Lz L sz):1*2^(L-1)≤32:=by rcases h with ⟨rfl,rfl⟩|⟨rfl,rfl⟩<;>decide
theorem Lz.one (h:Lz L sz):1*2^L≤64∧1*2^L=sz:=by rcases h with ⟨rfl,rfl⟩|⟨rfl,rfl⟩<;>decide
theorem Lz.step (h:Lz L sz):fq sz≤43∧sz/2^1+sz/2^3+3≤43:=by rcases h with ⟨rfl,rfl⟩|⟨rfl,rfl⟩<;>decide
theorem Lz.akB (h:Lz L sz):L*2^16%4294967296-sz=kB L 1:=by rcases h with ⟨rfl,rfl⟩|⟨rfl,rfl⟩<;>rfl
end
theorem QU (n:Nat):(List.replicate n ([.int .i32 ((0:Nat):Int),.int .u32 ((0:Nat):Int)]:List Value)).flatten=rows fT (List.replicate n (0,0)):=by
  induction n with
  |zero=>rfl
  |succ n ih=>simp only[List.replicate_succ,List.flatten_cons,rows,List.flatMap_cons] at ih ⊢;rw[ih];rfl
theorem s9 {ns M:List Nat} {i x:Nat} (h:∀j,j≤i→M.getD j 0=eC ns j) (hi:i+1<M.length) (hx:x=M.getD i 0+ns.getD i 0):∀j,j≤i+1→(M.set (i+1) x).getD j 0=eC ns j:=fun j hj=>by
  rw[aH hi];split
  · rename_i e;subst e;rw[hx,h i (Nat.le_refl _),ed]
  · exact h j Om
theorem nh.begin {C ns M:List Nat} {n y:Nat} (h:∀j,j≤n→M.getD j 0=eC ns j) (hn:ns.length=n) (hM:n<M.length):nh C ns (M.set n y) 0:=fun s hs=>by
  rw[aH hM,if_neg Om,h s Om];simp
theorem sP.begin {Z:Nat} {C ns S:List Nat}:sP Z C ns S 0:=fun w hw=>by omega
theorem sP.KP {Z u c:Nat} {C ns S M:List Nat} (h:sP Z C ns S u) (hC:nh C ns M u) (qw:∀x,C.count x=ns.getD x 0) (hu:u<C.length) (hc:c=C.getD u 0) (Pg:c<ns.length) (hS:M.getD c 0<S.length):sP Z C ns (S.set (M.getD c 0) (Z+u)) (u+1):=by
  subst hc;rw[hC _ Pg] at hS ⊢;exact h.step qw hu hS
theorem nh.KP {u c:Nat} {C ns M:List Nat} (h:nh C ns M u) (hu:u<C.length) (hc:c=C.getD u 0) (kQ:c<ns.length) (hM:ns.length≤M.length):nh C ns (M.set c (M.getD c 0+1)) (u+1):=by
  subst hc;exact h.step hu kQ hM
theorem nh.lt {u c:Nat} {C ns M:List Nat} (h:nh C ns M u) (qw:∀x,C.count x=ns.getD x 0) (hu:u<C.length) (hc:c=C.getD u 0) (kQ:c<ns.length):M.getD c 0<ns.sum:=by
  subst hc;rw[h _ kQ];have h1:=mQ qw hu;have h2:=lG (ns:=ns) (s:=C.getD u 0+1);rw[ed] at h2;omega
def xg (L:Nat) (ns:List Nat) (TT:List (Int × Nat)) (i:Nat):Prop:=∀s,s<i→1≤ns.getD s 0→TT.getD s (0,0)=(((eC ns s:Nat):Int)-((ns.getD s 0:Nat):Int),kB L (ns.getD s 0))
section
variable {L i:Nat} {ns:List Nat} {TT:List (Int × Nat)}
theorem xg.begin:xg L ns TT 0:=fun s h=>by omega
theorem xg.skip (h:xg L ns TT i) (h0:ns.getD i 0=0):xg L ns TT (i+1):=fun s hs h1=>by
  rcases Nat.lt_or_eq_of_le (Nat.le_of_lt_succ hs) with h2|h2
  · exact h s h2 h1
  · subst h2;omega
theorem xg.put (h:xg L ns TT i) (hi:i<TT.length) {x:Nat} {y z:Int} (hx:x=kB L (ns.getD i 0)) (hy:y=((eC ns i:Nat):Int)-((ns.getD i 0:Nat):Int)):xg L ns ((TT.set i (z,x)).set i (y,((TT.set i (z,x)).getD i (0,0)).2)) (i+1):=fun s hs h1=>by
  rw[List.set_set];have e:((TT.set i (z,x)).getD i (0,0)).2=x:=by simp[List.getD_eq_getElem?_getD,hi]
  rw[e];rcases Nat.lt_or_eq_of_le (Nat.le_of_lt_succ hs) with h2|h2
  · have:(TT.set i (y,x)).getD s (0,0)=TT.getD s (0,0):=by simp[List.getD_eq_getElem?_getD,List.getElem?_set,show¬i=s by omega]
    rw[this];exact h s h2 h1
  · subst h2;have:(TT.set s (y,x)).getD s (0,0)=(y,x):=by simp[List.getD_eq_getElem?_getD,hi]
    rw[this,hx,hy]
end
theorem jv.mk' {L sz:Nat} {P:List Int} {S:List Nat} {TT:List (Int × Nat)} (hC:cb L P) (hL:Lz L sz) (hS:sP sz (dm L P) (aU P) S sz) (hT:xg L (aU P) TT P.length) (ht:TT.length=256) (hs:S.length=sz):jv L (dm L P) (aU P) S TT:=by
  have hl:=hC.laid;have hp:=hL.pow;refine⟨hl,hC.lg,fun s j hj=>?_,fun s h1=>?_,ht,by rw[hs,hp],hC.sum⟩
  · rw[hp, ←hl.len] at hS;have:=hS.get hl.U0 hj;rw[this,hl.len]
  · refine hT s ?_ h1;apply Classical.byContradiction;intro hn;rw[B8 Om] at h1;omega
theorem F5 {L n:Nat} (hn:n≠1):kB L n=(L-(aj (n-1)-1))*65536-n*2^(L-(aj (n-1)-1)):=by unfold kB;rw[if_neg hn]
theorem Vr {L sz:Nat} {P:List Int} (hC:cb L P) (hL:Lz L sz):(aU P).sum=sz:=by rw[hC.sum,hL.pow]
theorem B' {L sz:Nat} {P:List Int} (hC:cb L P) (hL:Lz L sz) (s:Nat): -1≤P.getD s 0∧P.getD s 0<sz:=by
  have:=hC.at_ s;rw[hL.pow]
  push_cast
  exact this
theorem Tb {m:Nat} (h:m≤100):m*2^16%4294967296=m*65536:=by
  rw[show(2:Nat)^16=65536 from rfl];exact Nat.mod_eq_of_lt Om
theorem eY.cast {α:Type} {size m k j j':Nat} {all G:Nat→α} (e:j=j') (h:eY size m all G k j):eY size m all G k j':=e▸h
def z3:Nat→List Nat
  |0=>[]
  |t+1=>z3 t++eF 3 2
theorem F6:∀t,eF 3 2++z3 t=z3 t++eF 3 2
  |0=>by simp[z3]
  |t+1=>by rw[z3, ←List.append_assoc,F6 t]
theorem Vt {r:Nat} (hr:r<3):bN r=eF r 2:=by
  match r,hr with
  |0,_=>rfl
  |1,_=>rfl
  |2,_=>rfl
theorem zt {r:Nat} (hr:r<3):∀t,bN (3*t+r)=z3 t++eF r 2
  |0=>by rw[Nat.mul_zero,Nat.zero_add,Vt hr];rfl
  |t+1=>by
    rw[show 3*(t+1)+r=(3*t+r)+3 by omega];show eF 3 2++bN (3*t+r)=_;rw[zt hr t, ←List.append_assoc,F6];rfl
theorem qx.Vu {P H:List Nat} {C nb x b:Nat} (h:qx P C nb H.length (lowV H)) (hx:x<2^b) (hb:nb+b≤63):qx P (C+x*2^nb) (nb+b) (H++eF x b).length (lowV (H++eF x b)):=by
  have h1:=h.add hx hb;rw[gD,List.length_append,bl,gq,Nat.mod_eq_of_lt hx,Nat.mul_comm (2^H.length)];exact h1
theorem zu {O:List Nat} {op C:Nat} (ho:op+1<O.length):((O.set op (C%256)).set (op+1) (C/2^8%256)).take (op+2)=O.take op++et C 2:=by
  rw[←AA];apply List.ext_getElem?;intro i;rw[List.getElem?_take];rcases Nat.lt_or_ge i op with hi|hi
  · rw[if_pos Om,List.getElem?_append_left (by rw[List.length_take];omega),List.getElem?_take,if_pos hi,List.getElem?_set_ne Om,List.getElem?_set_ne Om]
  · rw[List.getElem?_append_right (by rw[List.length_take];omega),List.length_take,Nat.min_eq_left Om];rcases Nat.eq_or_lt_of_le hi with he|he
    · subst he;rw[if_pos Om,List.getElem?_set_ne Om,List.getElem?_set_self Om];simp
    · rcases Nat.eq_or_lt_of_le he with he2|he2
      · rw[show i=op+1 by omega,if_pos Om,List.getElem?_set_self (by rw[List.length_set];omega),show op+1-op=1 by omega];rfl
      · rw[if_neg Om,List.getElem?_eq_none Oz]
theorem qx.adt {O:List Nat} {op C nb n V:Nat} (h:qx (O.take op) C nb n V) (hb:16≤nb) (ho:op+1<O.length):qx (((O.set op (C%256)).set (op+1) (C/2^8%256)).take (op+2)) (C/2^16) (nb-16) n V:=by
  rw[zu ho];exact h.flush (k:=2) hb
def Eg (L:Nat) (E:List Nat):List Nat:=eF (L-5) 4++E
structure WC (L:Nat) (P:List Int) (O:List Nat) (pz:Bool) (rem i bs bc op:Nat) (E:List Nat):Prop where
  wr:qx (O.take op) bs bc (Eg L E).length (lowV (Eg L E))
  wz:BU (2^L) P pz (rem-1) i E
  bd:Al L pz rem i (4+E.length)
  r1:1≤rem
  r2:rem+eC (aU P) i=2^L+1
  pz1:pz=true→2≤rem
  ol:op≤O.length
  il:i≤P.length
structure WM (L:Nat) (P:List Int) (O:List Nat) (rem i bs bc op:Nat) (E:List Nat):Prop where
  wr:qx (O.take op) bs bc (Eg L E).length (lowV (Eg L E))
  wz:BU (2^L) P false (rem-1) i E
  bd:4+E.length+(if 2^L≤rem then 1 else 0)≤5+(L+1)*i+1
  bz:P.getD i 0=0→Al L false rem i (4+E.length)
  r1:2≤rem
  r2:rem+eC (aU P) i=2^L+1
  ol:op≤O.length
  il:i<P.length
structure WR (L:Nat) (P:List Int) (O:List Nat) (rem i t bs bc op:Nat) (E:List Nat):Prop where
  wr:qx (O.take op) bs bc (Eg L (E++z3 t)).length (lowV (Eg L (E++z3 t)))
  wz:BU (2^L) P true (rem-1) i E
  bd:Al L true rem i (4+E.length)
  r1:2≤rem
  r2:rem+eC (aU P) i=2^L+1
  ol:op≤O.length
theorem F7 (L:Nat) (E:List Nat):(Eg L E).length=4+E.length:=by unfold Eg;rw[List.length_append,bl]
theorem AD (L:Nat) (E F:List Nat):Eg L (E++F)=Eg L E++F:=by unfold Eg;rw[List.append_assoc]
section
variable {L rem i j bs bc op t k:Nat} {P:List Int} {O E:List Nat} {pz:Bool}
theorem WC.begin (hL:L=5∨L=6) (hr:rem=2^L+1):WC L P O false rem 0 (L-5) 4 0 []:=by
  subst hr;have hp:=Nat.two_pow_pos L;refine⟨?_,by rw[Nat.add_sub_cancel];exact BU.begin _ _,?_,Om,rfl,(fun h=>by cases h),Nat.zero_le _,Nat.zero_le _⟩
  · rw[show Eg L []=eF (L-5) 4 by simp[Eg],bl,gq,Nat.mod_eq_of_lt Om];exact⟨(fun x hx=>by simp at hx),Om,Od,Oi,by simp[tailV]⟩
  · unfold Al;rw[if_pos Om];simp
theorem Vv (h:qx (O.take op) bs bc (Eg L E).length (lowV (Eg L E))) (ho:op≤O.length):8*op+bc=4+E.length:=by
  have:=h.len;rw[F7,List.length_take,Nat.min_eq_left ho] at this;exact this
theorem WC.room (h:WC L P O pz rem i bs bc op E) (hL:L=5∨L=6):(L=5∧8*op+bc≤5+6*i)∨(L=6∧8*op+bc≤5+7*i):=by
  have h1:=Vv h.wr h.ol;have h2:=h.bd;unfold Al at h2;rcases hL with rfl|rfl
  · left;refine⟨rfl,?_⟩;omega
  · right;refine⟨rfl,?_⟩;omega
theorem WM.room (h:WM L P O rem i bs bc op E) (hL:L=5∨L=6):(L=5∧8*op+bc≤6+6*i)∨(L=6∧8*op+bc≤6+7*i):=by
  have h1:=Vv h.wr h.ol;have h2:=h.bd;rcases hL with rfl|rfl
  · left;refine⟨rfl,?_⟩;omega
  · right;refine⟨rfl,?_⟩;omega
theorem WC.lt (h:WC L P O pz rem i bs bc op E):bs<2^bc:=h.wr.lt
theorem WC.ilt (h:WC L P O pz rem i bs bc op E) (hs:(aU P).sum=2^L) (hr:1<rem):i<P.length:=by
  apply Classical.byContradiction;intro hn;have h2:=h.r2;have:eC (aU P) i=2^L:=by rw[←hs];unfold eC;rw[List.take_of_length_le (by rw[gW];omega)]
  omega
theorem WC.rB (h:WC L P O pz rem i bs bc op E) (hp:pz=false) (hs:(aU P).sum=2^L) (hr:1<rem):WM L P O rem i bs bc op E:=by
  subst hp;exact⟨h.wr,h.wz,h.bd.rB,fun _=>h.bd,hr,h.r2,h.ol,h.ilt hs hr⟩
theorem WC.adu (h:WC L P O pz rem i bs bc op E) (hp:pz=true):WR L P O rem i 0 bs bc op E:=by
  subst hp;exact⟨by simpa [z3] using h.wr,h.wz,h.bd,h.pz1 rfl,h.r2,h.ol⟩
theorem uG {ns:List Nat} {i:Nat}:∀z,(∀j,j<z→ns.getD (i+j) 0=0)→eC ns (i+z)=eC ns i
  |0,_=>rfl
  |z+1,h=>by rw[←Nat.add_assoc,ed,uG z (fun j hj=>h j Om),h z Om,Nat.add_zero]
theorem uH {P:List Int} {i:Nat}:(aU P).getD i 0=0↔P.getD i 0=0:=by rw[yw];omega
theorem WR.more (h:WR L P O rem i t bs bc op E) (hs:(aU P).sum=2^L) {z:Nat} (hz:∀j,j<z→P.getD (i+j) 0=0):i+z<P.length:=by
  have h1:=uG (ns:=aU P) (i:=i) z fun j hj=>uH.2 (hz j hj)
  have h2:=h.r2;have h3:=h.r1;apply Classical.byContradiction;intro hn;have:eC (aU P) (i+z)=2^L:=by rw[←hs];unfold eC;rw[List.take_of_length_le (by rw[gW];omega)]
  omega
theorem WR.three (h:WR L P O rem i t bs bc op E) (hb:bc≤30):WR L P O rem i (t+1) (bs+3*2^bc) (bc+2) op E:=by
  refine⟨?_,h.wz,h.bd,h.r1,h.r2,h.ol⟩;have:=h.wr.Vu (x:=3) (b:=2) Od Om;rw[show E++z3 (t+1)=(E++z3 t)++eF 3 2 by rw[z3,List.append_assoc],AD];exact this
theorem WR.fin (h:WR L P O rem i t bs bc op E) (hb:bc≤30) {r z:Nat} (hr:r<3) (hz:z=3*t+r) (h0:∀j,j<z→P.getD (i+j) 0=0) (hc:P.getD (i+z) 0≠0) (hs:(aU P).sum=2^L):WM L P O rem (i+z) (bs+r*2^bc) (bc+2) op (E++bN z):=by
  have hl:=h.more hs h0;have e:bN z=z3 t++eF r 2:=by rw[hz];exact zt hr t
  refine⟨?_,h.wz.run hl h0 hc,?_,fun h9=>absurd h9 hc,h.r1,?_,h.ol,hl⟩
  · have:=h.wr.Vu (x:=r) (b:=2) Om Om;rw[e, ←List.append_assoc,AD];exact this
  · have:=h.bd.run z;rw[List.length_append];omega
  · rw[uG z fun j hj=>uH.2 (h0 j hj)];exact h.r2
theorem WM.put (h:WM L P O rem i bs bc op E) (hb:16<bc) (ho:op+1<O.length):WM L P ((O.set op (bs%256)).set (op+1) (bs/2^8%256)) rem i (bs/2^16) (bc-16) (op+2) E:=
  ⟨h.wr.adt Om ho,h.wz,h.bd,h.bz,h.r1,h.r2,Oz,h.il⟩
theorem WC.put (h:WC L P O pz rem i bs bc op E) (hb:16<bc) (ho:op+1<O.length):WC L P ((O.set op (bs%256)).set (op+1) (bs/2^8%256)) pz rem i (bs/2^16) (bc-16) (op+2) E:=
  ⟨h.wr.adt Om ho,h.wz,h.bd,h.r1,h.r2,h.pz1,Oz,h.il⟩
theorem adw {rem v k mx w b:Nat} (h1:2^k≤rem) (h2:rem<2^(k+1)) (hm:mx=2*2^k-1-rem) (hv:v≤rem) (hw:(v<2^k∧w=v)∨(2^k≤v∧w=v+mx)) (hb:(w<mx∧b+1=k+1)∨(mx≤w∧b=k+1)):fp rem v=eF w b∧w<2^b:=by
  have hp:=Nat.two_pow_pos k;have z9:aj rem=k+1:=jU (by rw[Nat.add_sub_cancel];exact h1) h2 Om;have hz:2^(k+1)=2*2^k:=by rw[Nat.pow_succ,Nat.mul_comm]
  have hk:mx≤2^k:=Om;unfold fp;rw[z9,hz,Nat.add_sub_cancel];rcases hw with ⟨ha,rfl⟩|⟨ha,rfl⟩
  · rcases hb with ⟨hc,hb⟩|⟨hc,rfl⟩
    · rw[if_pos Om,show b=k by omega];exact⟨rfl,ha⟩
    · rw[if_neg Om,if_pos ha];exact⟨rfl,Om⟩
  · rcases hb with ⟨hc,hb⟩|⟨hc,rfl⟩
    · omega
    · rw[if_neg Om,if_neg Om,hm];exact⟨rfl,Om⟩
theorem WM.next (h:WM L P O rem i bs bc op E) (hL:L=5∨L=6) (zR: -1≤P.getD i 0) (hs:(aU P).sum=2^L) {v mx w b rm:Nat} (h1:2^k≤rem) (h2:rem<2^(k+1)) (hv:(v:Int)=P.getD i 0+1) (hm:mx=2*2^k-1-rem) (hw:(v<2^k∧w=v)∨(2^k≤v∧w=v+mx)) (hb:(w<mx∧b+1=k+1)∨(mx≤w∧b=k+1)) (hbc:bc≤30) (hk:k≤6) (hrm:rm=rem-(aU P).getD i 0):
    ∃E',WC L P O (decide (((w:Nat):Int)=((1:Nat):Int))) rm (i+1) (bs+w*2^bc) (bc+b) op E':=by
  have lx:=lG (ns:=aU P) (s:=i+1);rw[ed,hs,yw] at lx;rw[yw] at hrm;have Hs:=h.r2;have yy:=h.r1;have hp:=Nat.two_pow_pos k;obtain⟨e1,e2⟩:=adw (v:=v) h1 h2 hm Om hw hb;have hkk:1≤k:=by
    apply Classical.byContradiction;intro hn;have:k=0:=Om;subst this;simp at h2;omega
  have yl:2≤2^k:=Nat.pow_le_pow_right (n:=2) Om hkk;have Vw:w=1↔P.getD i 0=0:=Om;have hwr:=h.wr.Vu e2 Om;rw[←e1, ←AD] at hwr;refine⟨E++fp rem v,hwr,?_,?_,Om,by rw[ed,yw];omega,?_,h.ol,h.il⟩
  · by_cases h0:P.getD i 0=0
    · rw[decide_eq_true (by rw[Vw.2 h0]),show rm-1=rem-1 by omega];have:=h.wz.zero h.il h0 Om;rw[show rem-1+1=rem by omega] at this;rw[show v=1 by omega];exact this
    · rw[decide_eq_false (by have:=fun q=>h0 (Vw.1 q);omega),show rm-1=rem-1-(P.getD i 0).natAbs by omega];have:=h.wz.num h.il rfl h0 zR Om;rw[show rem-1+1=rem by omega,show(P.getD i 0+1).toNat=v by omega] at this;exact this
  · rw[List.length_append, ←Nat.add_assoc];by_cases h0:P.getD i 0=0
    · rw[decide_eq_true (by rw[Vw.2 h0]),show v=1 by omega,show rm=rem by omega];exact(h.bz h0).zero hL Om Om
    · rw[decide_eq_false (by have:=fun q=>h0 (Vw.1 q);omega),hrm];exact Al.num h.bd hL Om Om Om Om Om
  · intro hd;have:=of_decide_eq_true hd;have:=Vw.1 Om;omega
theorem KQ {vN k:Nat} (h:vN=2^k) (hk:1≤k):vN/2^1=2^(k-1)∧2^(k-1+1)=2^k:=by
  rw[h,Nat.pow_div hk Od,show k-1+1=k by omega];exact⟨rfl,rfl⟩
theorem WC.done (h:WC L P O pz rem i bs bc op E) (hs:(aU P).sum=2^L) (hr:rem=1) (hb:bc≤16) (ho:op+1<O.length) (lq:P.getD (P.length-1) 0≠0) (hP:1≤P.length) {m:Nat} (hm:m=op+(bc+7)/8):
    ∃E,cK (2^L) P E∧m=(4+E.length+7)/8∧m≤op+2∧Bytes (((O.set op (bs%256)).set (op+1) (bs/2^8%256)).take m)∧tailV (((O.set op (bs%256)).set (op+1) (bs/2^8%256)).take m) 0 m=lowV (eF (L-5) 4++E):=by
  have hlen:=Vv h.wr h.ol;have Hs:=h.r2;have hi:i=P.length:=by
    rcases Nat.lt_trichotomy i P.length with h1|h1|h1
    · have h2:=lG (ns:=aU P) (s:=P.length-1+1);have h3:eC (aU P) i≤eC (aU P) (P.length-1):=by
        rcases Nat.lt_or_ge i (P.length-1) with h4|h4
        · have:=uv (ns:=aU P) h4;omega
        · rw[show i=P.length-1 by omega];exact Nat.le_refl _
      rw[ed,hs] at h2;have:(aU P).getD (P.length-1) 0=0:=Om;exact absurd (uH.1 this) lq
    · exact h1
    · have:=h.il;omega
  have hpz:pz=false:=by
    cases pz with
    |false=>rfl
    |true=>have:=h.pz1 rfl;omega
  obtain⟨a1,a2,a3⟩:=h.wr.align (k:=(bc+7)/8) rfl;rw[F7] at a2 a3;have SI:=h.wz;rw[hr] at SI;have J':m=(4+E.length+7)/8:=Om;have e:((O.set op (bs%256)).set (op+1) (bs/2^8%256)).take m=O.take op++et bs ((bc+7)/8):=by
    have e1:((O.set op (bs%256)).set (op+1) (bs/2^8%256)).take (op+2)=O.take op++et bs 2:=zu ho;have e2:((O.set op (bs%256)).set (op+1) (bs/2^8%256)).take m=(((O.set op (bs%256)).set (op+1) (bs/2^8%256)).take (op+2)).take m:=by rw[List.take_take,Nat.min_eq_left Om]
    rw[e2,e1,List.take_append,List.take_of_length_le (by rw[List.length_take];omega),List.length_take,Nat.min_eq_left h.ol,show m-op=(bc+7)/8 by omega];congr 1;unfold et;rw[←List.map_take,List.take_range,Nat.min_eq_left Om]
  refine⟨E,SI.done hpz hi,J',Om,by rw[e];exact a1,?_⟩;rw[e,J'];exact a3
theorem Ht {P:List Int} {i x:Nat} (h:∀q,q<x-i→P.getD (i+q) 0=0) (h0:P.getD x 0=0) (hi:i≤x):∀q,q<x+1-i→P.getD (i+q) 0=0:=fun q hq=>by
  rcases Nat.lt_or_ge q (x-i) with h1|h1
  · exact h q h1
  · rw[show i+q=x by omega];exact h0
theorem QV {b:Nat} (h:b≤24):2^b≤16777216:=Nat.pow_le_pow_right (n:=2) Om h
theorem KR {w b:Nat} (hw:w≤255) (h:b≤24):w*2^b%4294967296=w*2^b:=by
  have:=QV h;have:=Nat.mul_le_mul hw this;exact Nat.mod_eq_of_lt Om
theorem adx {r k:Nat} (h1:1≤r) (h:r<2^k):1≤k:=by
  apply Classical.byContradiction;intro hn;have:k=0:=Om;subst this;simp at h;omega
theorem WM.ns (h:WM L P O rem i bs bc op E) (hs:(aU P).sum=2^L):(aU P).getD i 0+1≤rem:=by
  have h2:=lG (ns:=aU P) (s:=i+1);have h3:=h.r2;rw[ed,hs] at h2;omega
theorem KS {n mh:Nat} (h2:2≤n) (hn:n≤12) (hi:i≤n) (ho:op%2=0) (hb:1≤bc) (hr:(L=5∧8*op+bc≤5+6*i)∨(L=6∧8*op+bc≤5+7*i)) (hm:(L=5∧mh=(n*5+6)/8+3)∨(L=6∧mh=(n*6+6)/8+3)):op+1<mh:=by
  have:n=2∨n=3∨n=4∨n=5∨n=6∨n=7∨n=8∨n=9∨n=10∨n=11∨n=12:=Om;rcases this with rfl|rfl|rfl|rfl|rfl|rfl|rfl|rfl|rfl|rfl|rfl<;>omega
theorem Vx {w b:Nat} (h:w≤255):w*2^b≤255*2^b:=Nat.mul_le_mul_right _ h
end
def Eh (ok:Bool) (t:TypeId) (x:Value):Value:=match ok with
  |true=>.nilIface
  |false=>.iface t x
variable {P:Program} {ρ:bx} {o:Oper} {x:Operand}
theorem AE {ms:Array (String × TypeId)} {ok:Bool} {T:TypeId} {u:Value} {ty cS:TypeId} (ho:o.op=.binOp .neq ty x (.const .nilIface) cS) (hx:ev ρ x=some (Eh ok T u)) (hu:P.underlying ty=some (.interface ms)):bJ P ρ o (.bool (!ok)):=by
  cases ok with
  |true=>exact cT ho hx hu
  |false=>exact G3 ho hx hu
theorem QW {ms:Array (String × TypeId)} {ok:Bool} {T:TypeId} {u:Value} {ty cS:TypeId} (ho:o.op=.binOp .eql ty x (.const .nilIface) cS) (hx:ev ρ x=some (Eh ok T u)) (hu:P.underlying ty=some (.interface ms)):bJ P ρ o (.bool ok):=by
  cases ok with
  |true=>exact Du ho hx hu
  |false=>exact yY ho hx hu
theorem Hu {ty:TypeId} {a:Int} (ho:o.op=.unOp .neg ty x) (hx:ev ρ x=some (.int .i16 a)) (h: -32768≤ -a∧ -a≤32767):bJ P ρ o (.int .i16 (-a)):=(acT ho hx).cast (by rw[IntWalk.i16_in _ h])
theorem l5 {W:Nat→Nat} {i:Nat}:∀{n:Nat},i≤n→sm W i≤sm W n
  |0,h=>by rw[show i=0 by omega];exact Nat.le_refl _
  |n+1,h=>by
    rcases Nat.lt_or_eq_of_le h with h1|h1
    · have:=l5 (W:=W) (show i≤n by omega);simp only[sm];omega
    · rw[h1];exact Nat.le_refl _
theorem pI {W:Nat→Nat} {i n:Nat} (h:i<n):W i≤sm W n:=by
  have:=l5 (W:=W) (show i+1≤n by omega);simp only[sm] at this;omega
def mC (CN:List Nat) (j:Nat):Nat:=CN.getD j 0
section
variable {CN:List Nat} {R:List Int} {S i n d T lo L Z:Nat}
structure AF (CN:List Nat) (R:List Int) (S i d T lo:Nat):Prop where
  nj:D' CN R i
  hd:d=qO Ik R i
  ht:T+sm (mC CN) i=S+qO (yc CN) R i
  ha:sm (mC CN) i≤qO (yc CN) R i+d*lo
theorem AF.zero:AF CN R S 0 0 S lo:=⟨D'.zero _ _,rfl,rfl,Nat.zero_le _⟩
theorem AF.none (h:AF CN R S i d T lo) (hi:i<R.length) (h0:CN.getD i 0=0):AF CN (R.set i 0) S (i+1) d T lo:=by
  refine⟨h.nj.step hi (.inl ⟨h0,rfl⟩),?_,?_,?_⟩
  · rw[fy hi, ←h.hd];rfl
  · rw[fy hi];have:=h.ht;simp only[sm,mC,yc] at this ⊢;rw[h0];simp;omega
  · rw[fy hi];have:=h.ha;simp only[sm,mC,yc] at this ⊢;rw[h0];simp;omega
theorem AF.rest (h:AF CN R S i d T lo) (hi:i<R.length) (h0:CN.getD i 0≠0):AF CN (R.set i (-2)) S (i+1) d T lo:=by
  refine⟨h.nj.step hi (.inr ⟨h0,.inr (.inr rfl)⟩),?_,?_,?_⟩
  · rw[fy hi, ←h.hd];rfl
  · rw[fy hi];have:=h.ht;simp only[sm,mC,yc] at this ⊢;simp;omega
  · rw[fy hi];have:=h.ha;simp only[sm,mC,yc] at this ⊢;simp;omega
theorem AF.room (h:AF CN R S i d T lo) (hS:sm (mC CN) n=S) (hi:i<n):CN.getD i 0≤T∧CN.getD i 0≤S:=by
  have h1:=l5 (W:=mC CN) (show i+1≤n by omega);have h2:=h.ht;simp only[sm] at h1;have h3:mC CN i=CN.getD i 0:=rfl;omega
theorem AF.low (h:AF CN R S i d T lo) (hi:i<R.length) (h0:CN.getD i 0≠0) (hl:CN.getD i 0≤lo) {v:Int} (hv:v= -1∨v=1) (hT:CN.getD i 0≤T):AF CN (R.set i v) S (i+1) (d+1) (T-CN.getD i 0) lo:=by
  have rT:v≠ -2:=Om;refine⟨h.nj.step hi (.inr ⟨h0,Om⟩),?_,?_,?_⟩
  · rw[fy hi, ←h.hd];simp only[Ik,if_neg rT];omega
  · rw[fy hi];have:=h.ht;simp only[sm,mC,yc,if_neg rT] at this ⊢;omega
  · rw[fy hi,Nat.succ_mul];have:=h.ha;simp only[sm,mC,yc,if_neg rT] at this ⊢;omega
structure Ph (CN:List Nat) (R:List Int) (n d T:Nat):Prop where
  nj:D' CN R n
  hd:d=qO Ik R n
  ht:T=qO (yc CN) R n
theorem AF.done (h:AF CN R S n d T lo) (hS:sm (mC CN) n=S):Ph CN R n d T:=⟨h.nj,h.hd,by have:=h.ht;omega⟩
theorem AF.pos (h:AF CN R S n d T lo) (hS:sm (mC CN) n=S) (hL:L=5∨L=6) (h0:0<S) (hn:n≤13) (va:lo=S*3/2^(L+1)):0<T:=by
  have h1:=h.nj.adm;have h2:=h.ht;have h3:=h.ha;have h4:=h.hd;have:=QH (S:=S) (d:=d) (A:=S-T) (lo:=lo) (L:=L) hL h0 Om (by rw[va,Nat.mul_comm]) Om;omega
theorem Ph.le (h:Ph CN R n d T):d≤n:=by rw[h.hd];exact h.nj.adm
theorem Ph.room (h:Ph CN R n d T) (hi:i<n) (hv:R.getD i 0= -2):CN.getD i 0≤T:=by
  have:=pI (W:=fun j=>yc CN j (R.getD j 0)) hi;rw[h.ht];simp only[yc,hv,if_true] at this;exact this
theorem Ph.put (h:Ph CN R n d T) (hi:i<n) (hl:i<R.length) (hv:R.getD i 0= -2):Ph CN (R.set i 1) n (d+1) (T-CN.getD i 0):=by
  have e1:=Au (F:=Ik) (v:=1) hi hl;have e2:=Au (F:=yc CN) (v:=1) hi hl;rw[hv] at e1 e2;refine⟨h.nj.put hl hi hv,?_,?_⟩
  · rw[h.hd];simp[Ik] at e1;omega
  · rw[h.ht];simp[yc] at e2;simp[yc];omega
theorem Vy {S L:Nat}:S/2^L≤S*3/2^(L+1):=by
  have hp:=Nat.two_pow_pos L;rw[Nat.le_div_iff_mul_le (Nat.two_pow_pos _),Nat.pow_succ, ←Nat.mul_assoc];have:=Nat.div_mul_le_self S (2^L);omega
theorem Ea.small {N0 NR:List Int} {v rB rs tmp d ff:Nat} (h:Ea CN N0 NR n i v rB rs tmp) (hL:L=5∨L=6) (hv:v=62-L) (Hl:rB=2^(v-1)-1) (ht:ff=qO (yc CN) N0 n) (hd:d≤2^L) (Kw:rs=(2^v*(2^L-d)+rB)/ff) (hi:i<n) (he:NR.getD i 0= -2):tmp+CN.getD i 0*rs≤9223372036854775807:=by
  have e:=h.rest i (Nat.le_refl _);rw[he] at e;have h1:qO (yc CN) N0 (i+1)≤ff:=by rw[ht];exact l5 (W:=fun j=>yc CN j (N0.getD j 0)) Om
  rw[nk, ←e] at h1;simp only[yc,if_true] at h1;have h2:=Nat.mul_le_mul_right rs h1;have h3:ff*rs≤2^v*(2^L-d)+rB:=by rw[Kw];exact Nat.mul_div_le _ _
  have h4:=h.at_;rw[Nat.add_mul] at h2;have h5:2^v*(2^L-d)≤2^v*2^L:=Nat.mul_le_mul_left _ Om;rw[←Nat.pow_add,show v+L=62 by omega] at h5;have h6:2^(v-1)≤2^60:=Nat.pow_le_pow_right Om Om;omega
theorem zw {x L:Nat} (hx:x≤9223372036854775807) (hL:L=5∨L=6):x/2^(62-L)≤128:=by
  rcases hL with rfl|rfl
  · show x/144115188075855872≤128;omega
  · show x/72057594037927936≤128;omega
structure Ca (L Z:Nat) (CN:List Nat) (R:List Int) (S i:Nat) (still:Int) (lp lg:Nat):Prop where
  nm:Ky CN R i
  lg:uB R i lp lg
  st:still=(Z:Int)-(qO fA R i:Nat)
  sml:qO fA R i≤65*i
  big:∀j,j<i→S/2^L<CN.getD j 0→1≤R.getD j 0
theorem Ca.zero:Ca L Z CN R S 0 (Z:Int) 0 0:=⟨Ky.zero _ _,uB.zero _ _,by simp[qO,sm],by simp[qO,sm],fun j h=>Om⟩
theorem xh {vN:Nat} {v:Int} (h:∀j,j<i→vN<CN.getD j 0→1≤R.getD j 0) (hi:i<R.length) (hv:vN<CN.getD i 0→1≤v):∀j,j<i+1→vN<CN.getD j 0→1≤(R.set i v).getD j 0:=fun j hj hb=>by
  rw[dK hi];split
  · rename_i e;subst e;exact hv hb
  · exact h j Om hb
theorem Ca.none {still:Int} {lp lg:Nat} (h:Ca L Z CN R S i still lp lg) (hi:i<R.length) (h0:CN.getD i 0=0):Ca L Z CN (R.set i 0) S (i+1) still lp lg:=by
  refine⟨h.nm.step hi Od Om,h.lg.low hi Od,?_,?_,xh h.big hi (fun h9=>by rw[h0] at h9;exact absurd h9 (Nat.not_lt_zero _))⟩
  · rw[fy hi];have:=h.st;simp only[fA];simp;omega
  · rw[fy hi];have:=h.sml;simp only[fA];simp;omega
theorem Ca.low {still:Int} {lp lg:Nat} (h:Ca L Z CN R S i still lp lg) (hi:i<R.length) (h0:CN.getD i 0≠0) (hl:CN.getD i 0≤S/2^L):Ca L Z CN (R.set i (-1)) S (i+1) (still-1) lp lg:=by
  refine⟨h.nm.step hi Od Om,h.lg.low hi Od,?_,?_,xh h.big hi (fun h9=>Om)⟩
  · rw[fy hi];have:=h.st;simp only[fA];simp;omega
  · rw[fy hi];have:=h.sml;simp only[fA];simp;omega
theorem Ca.put {still:Int} {lp lg pb QX QY:Nat} (h:Ca L Z CN R S i still lp lg) (hi:i<R.length) (h0:CN.getD i 0≠0) (hp:1≤pb∧pb≤65) (hl:(lp<pb∧QX=pb∧QY=i)∨(pb≤lp∧QX=lp∧QY=lg)):Ca L Z CN (R.set i (pb:Int)) S (i+1) (still-(pb:Int)) QX QY:=by
  refine⟨h.nm.step hi Om (by constructor<;>intro h9<;>omega),?_,?_,?_,xh h.big hi (fun _=>Om)⟩
  · rcases hl with ⟨_,rfl,rfl⟩|⟨h2,rfl,rfl⟩
    · exact uB.new hi hp.1
    · exact h.lg.old hi hp.1 h2
  · rw[fy hi];have:=h.st;simp only[fA];simp;omega
  · rw[fy hi];have:=h.sml;simp only[fA];simp;omega
theorem Ca.top {still:Int} {lp lg:Nat} (h:Ca L Z CN R S n still lp lg) (hS:sm (mC CN) n=S) (h0:0<S) (hn:n<2^L):1≤lp∧lg<n∧R.getD lg 0=(lp:Int):=by
  rcases h.lg with ⟨h1,h2⟩|h1
  · obtain⟨j,hj,hb⟩:=BX hS h0 hn;have:=h.big j hj hb;have:=h2 j hj;omega
  · exact h1
theorem Ca.fin (hZ:Z=2^L) {still v:Int} {lp lg:Nat} (h:Ca L Z CN R S n still lp lg) (h1:1≤lp∧lg<n∧R.getD lg 0=(lp:Int)) (hl:n≤R.length) (hv:v=R.getD lg 0+still) (hb:¬((lp/2^1:Nat):Int)≤ -still):u9 L CN (R.set lg v) n:=by
  have e:=Au (F:=fA) (v:=v) h1.2.1 (show lg<R.length by omega);have hs:=h.st;have h2:=h1.2.2;simp only[fA] at e;refine⟨h.nm.put Om Om Om,?_⟩;omega
end
def qZ:List Nat:=[0,473195,504333,520860,550000,700000,750000,830000]
theorem Vz (i:Nat):qZ.getD i 0≤830000:=by
  rcases Nat.lt_or_ge i 8 with h|h
  · have:∀i,i<8→qZ.getD i 0≤830000:=Od;exact this i h
  · rw[List.getD_eq_getElem?_getD,List.getElem?_eq_none (by simpa [qZ] using h)];decide
theorem vd {L x:Nat} (hL:L=5∨L=6) (hx:x≤830000):1*2^(62-L-20)*x≤1152921504606846976∧1*2^(62-L-20)≤137438953472:=by
  rcases hL with rfl|rfl
  · show 1*137438953472*x≤_∧_;omega
  · show 1*68719476736*x≤_∧_;omega
theorem mG {xs:List Nat} (h:Bytes xs):∀n,tailV xs 0 n<2^(8*n)
  |0=>by simp[tailV]
  |n+1=>by
    have ih:=mG h n;have hb:=h.at_ n;simp only[tailV,Nat.zero_add];have:xs.getD n 0*2^(8*n)≤255*2^(8*n):=Nat.mul_le_mul_right _ Om;rw[Nat.mul_add,Nat.pow_add];omega
theorem zx {xs ys:List Nat} (hx:Bytes xs) (hy:Bytes ys):∀n,tailV xs 0 n=tailV ys 0 n→∀i,i<n→xs.getD i 0=ys.getD i 0
  |0,_,i,h=>by omega
  |n+1,e,i,h=>by
    have h1:=mG hx n;have h2:=mG hy n;simp only[tailV,Nat.zero_add] at e;have hp:=Nat.two_pow_pos (8*n);have e1:xs.getD n 0=ys.getD n 0:=by
      have:=congrArg (fun z=>z/2^(8*n)) e;simp only[Nat.add_mul_div_right _ _ hp,Nat.div_eq_of_lt h1,Nat.div_eq_of_lt h2] at this;omega
    have e2:tailV xs 0 n=tailV ys 0 n:=by rw[e1] at e;omega
    rcases Nat.lt_or_eq_of_le (Nat.le_of_lt_succ h) with h3|h3
    · exact zx hx hy n e2 i h3
    · rw[h3];exact e1
theorem pJ {xs ys:List Nat} (hl:xs.length=ys.length) (h:∀i,i<xs.length→xs.getD i 0=ys.getD i 0):xs=ys:=by
  apply List.ext_getElem hl;intro i h1 h2;have:=h i h1;simpa [List.getD_eq_getElem?_getD,h1,h2] using this
theorem Ei {ys H:List Nat} {k m r:Nat} (hy:Bytes ys) (hH:Bytes H) (hk:H.length=k) (hkm:k≤m) (hm:ys.length=m) (e:tailV ys 0 m=tailV H 0 k+2^(8*k)*r):ys=H++ys.drop k∧tailV (ys.drop k) 0 (m-k)=r:=by
  have h1:=uh hy 0 (m:=k) (n:=m) hkm;have hb:=mG hH k;rw[e,Nat.add_mul_mod_self_left,Nat.mod_eq_of_lt hb] at h1;have h3:ys.take k=H:=pJ (by rw[List.length_take];omega) fun i hi=>by
    have hik:i<k:=by rw[List.length_take] at hi;omega
    have h4:=zx hH hy k h1 i hik;rw[h4];simp[List.getD_eq_getElem?_getD,List.getElem?_take,hik]
  have h5:ys=H++ys.drop k:=by rw[←h3,List.take_append_drop]
  refine⟨h5,?_⟩;have h6:=lH H (ys.drop k) (m-k) (by rw[List.length_drop];omega);rw[←h5,hk,show k+(m-k)=m by omega,e,Nat.mul_comm (2^(8*k)) r] at h6;have hp:=Nat.two_pow_pos (8*k);exact(Nat.eq_of_mul_eq_mul_right hp Om).symm
theorem VA {L m:Nat} {P:List Int} {E W ys text:List Nat} {S:List Nat} {TT:List (Int × Nat)} {k:Nat} (hC:cb L P) (hD:cK (2^L) P E) (hW:Bytes W) (hk:k=(4+E.length+7)/8) (Io:W.length=k) (hV:tailV W 0 k=lowV (eF (L-5) 4++E)) (hy:Bytes ys) (Il:ys.length=m) (h2:2≤text.length) (hs:∀s ∈ text,1≤(aU P).getD s 0)
    (hm:m=k+(2*L+fN (buildD L (dm L P) (aU P)) (encA L (dm L P) (aU P) text))/8+1)
    (ht:tailV ys 0 m=lowV (eF (L-5) 4++E)+2^(8*k)*(2^(2*L+fN (buildD L (dm L P) (aU P)) (encA L (dm L P) (aU P) text))+(((encA L (dm L P) (aU P) text).getD 0 0*2^L+(encA L (dm L P) (aU P) text).getD 1 0)*2^fN (buildD L (dm L P) (aU P)) (encA L (dm L P) (aU P) text)+fR (buildD L (dm L P) (aU P)) (encA L (dm L P) (aU P) text)))):
    gl L P text ys∧2≤ys.length:=by
  rw[←hV] at ht;obtain⟨e1,e2⟩:=Ei hy hW Io Om Il ht;refine⟨⟨hC,E,W,ys.drop k,e1,hD,hW,by rw[Io,hk],by rw[←hk];exact hV,⟨_,hC.laid.text hs h2,fun i hi h3=>hC.laid.ends hs i hi h3,fun x hx=>hy x (List.mem_of_mem_drop hx),?_,?_⟩⟩,Om⟩
  · rw[List.length_drop,Il];show _=(2*L+fN (dY L P) _)/8+1;unfold dY;omega
  · show tailV (ys.drop k) 0 ((2*L+fN (dY L P) _)/8+1)=_;unfold dY;rw[←e2];congr 1;omega
theorem KT {L:Nat} {CN:List Nat} {NR:List Int} {n s:Nat} (h:u9 L CN NR n) (hs:s<n) (hc:CN.getD s 0≠0):1≤(aU (NR.take n)).getD s 0:=by
  rw[yw,gr hs];have:=h.I.z s hs;have:NR.getD s 0≠0:=fun e=>hc (this.1 e)
  omega
theorem Hv {L:Nat} {CN:List Nat} {NR:List Int} {n:Nat} (h:u9 L CN NR n) (hn:1≤n) (hc:CN.getD (n-1) 0≠0):(NR.take n).getD (n-1) 0≠0:=by
  rw[gr Om];exact fun e=>hc ((h.I.z _ Om).1 e)
theorem ady {L:Nat} (h:L=5∨L=6):∃sz,Lz L sz:=by
  rcases h with rfl|rfl
  · exact⟨32,.inl ⟨rfl,rfl⟩⟩
  · exact⟨64,.inr ⟨rfl,rfl⟩⟩
def cZ (Z:List Nat) (i:Nat):Nat:=Z.getD i 0%4294967296
def pZ (Z:List Nat) (i:Nat):Nat:=Z.getD i 0/4294967296%65536
def sZ (Z:List Nat) (i:Nat):Nat:=Z.getD i 0/281474976710656%256
def bZ (Z:List Nat) (i:Nat):Nat:=Z.getD i 0/72057594037927936%256
def Bh (x c:Nat):Nat:=x/4294967296*4294967296+c
def zy (x p:Nat):Nat:=x%4294967296+p*4294967296+x/281474976710656*281474976710656
def l6 (x n:Nat):Nat:=x%72057594037927936+n*72057594037927936
def Pj (c s:Nat):Nat:=c+s*281474976710656
theorem KU {x k:Nat} (hk:k≤64) (h:x<2^64):x&&&((2^(64-k)-1)*2^k)=x/2^k*2^k:=by
  apply Nat.eq_of_testBit_eq;intro i;rw[Nat.testBit_and,Nat.testBit_mul_two_pow,Nat.testBit_mul_two_pow,Nat.testBit_two_pow_sub_one,Nat.testBit_div_two_pow];by_cases h1:k≤i
  · rw[show i-k+k=i by omega];by_cases h2:i<64
    · simp[h1,show i-k<64-k by omega]
    · have:x.testBit i=false:=Nat.testBit_lt_two_pow (Nat.lt_of_lt_of_le h (Nat.pow_le_pow_right Om Om));simp[this]
  · simp[h1]
theorem Tc {a b k:Nat} (h:b<2^k):a*2^k|||b=a*2^k+b:=by
  rw[Nat.or_comm,rE h,Nat.add_comm]
theorem VB {x c:Nat} (h:x<18446744073709551616) (hc:c<4294967296):x&&&18446744069414584320|||c=Bh x c:=by
  have e:x&&&18446744069414584320=x/2^32*2^32:=KU (k:=32) Od h;rw[e,Tc (by simpa using hc)];rfl
theorem VC {x n:Nat} (hn:n<256):x&&&72057594037927935|||n*2^56%18446744073709551616=l6 x n:=by
  have e:x&&&72057594037927935=x%2^56:=Nat.and_two_pow_sub_one_eq_mod x 56;rw[e,Nat.mod_eq_of_lt (a:=n*2^56) Om,rE (Nat.mod_lt _ Od)];rfl
theorem VD {c s:Nat} (hc:c<4294967296) (hs:s<256):c|||s*2^48%18446744073709551616=Pj c s:=by
  rw[Nat.mod_eq_of_lt Om,rE Om];rfl
theorem VE {x p:Nat} (h:x<18446744073709551616) (hp:p<65536):x&&&18446462603027808255|||p*2^32%18446744073709551616=zy x p:=by
  have e0:(18446462603027808255:Nat)=18446462598732840960|||4294967295:=Od;have e1:x&&&18446462598732840960=x/2^48*2^48:=KU (k:=48) Od h;have e2:x&&&4294967295=x%2^32:=Nat.and_two_pow_sub_one_eq_mod x 32;rw[e0,Nat.and_or_distrib_left,e1,e2,Nat.mod_eq_of_lt (a:=p*2^32) Om,Nat.or_assoc,rE (Nat.mod_lt _ Od),Tc Om];unfold zy;show x/281474976710656*281474976710656+(x%4294967296+p*4294967296)=_;omega
theorem AG {x c:Nat} (h:x<18446744073709551616) (hc:c<4294967296):Bh x c<18446744073709551616:=by unfold Bh;omega
theorem jc {x n:Nat} (hn:n<256):l6 x n<18446744073709551616:=by unfold l6;omega
theorem AH {x p:Nat} (h:x<18446744073709551616) (hp:p<65536):zy x p<18446744073709551616:=by unfold zy;omega
theorem KV {c s:Nat} (hc:c<4294967296) (hs:s<256):Pj c s<18446744073709551616:=by unfold Pj;omega
def fY (Z:List Nat):Prop:=∀i,Z.getD i 0<18446744073709551616
theorem fY.set {Z:List Nat} (h:fY Z) {i v:Nat} (hv:v<18446744073709551616):fY (Z.set i v):=fun j=>by
  rcases Nat.lt_or_ge i Z.length with hi|hi
  · rw[aH hi];split
    · exact hv
    · exact h j
  · rw[List.set_eq_of_length_le hi];exact h j
theorem fY.zero (n:Nat):fY (List.replicate n 0):=fun i=>by
  simp only[List.getD_eq_getElem?_getD,List.getElem?_replicate];split<;>simp
section
variable {Z:List Nat} {i j c p n s x:Nat}
theorem qQ {f:Nat→Nat} {v:Nat} (hi:i<Z.length):f ((Z.set i v).getD j 0)=if i=j then f v else f (Z.getD j 0):=by
  rw[aH hi];split<;>rfl
theorem Ej (hi:i<Z.length) (hc:c<4294967296):cZ (Z.set i (Bh (Z.getD i 0) c)) j=if i=j then c else cZ Z j:=by
  unfold cZ;rw[qQ (f:=fun x=>x%4294967296) hi];split
  · unfold Bh;omega
  · rfl
theorem adz (hi:i<Z.length) (hc:c<4294967296):pZ (Z.set i (Bh (Z.getD i 0) c)) j=pZ Z j:=by
  unfold pZ;rw[qQ (f:=fun x=>x/4294967296%65536) hi];split
  · rename_i e;subst e;unfold Bh;omega
  · rfl
theorem adA (hi:i<Z.length) (hc:c<4294967296):sZ (Z.set i (Bh (Z.getD i 0) c)) j=sZ Z j:=by
  unfold sZ;rw[qQ (f:=fun x=>x/281474976710656%256) hi];split
  · rename_i e;subst e;unfold Bh;omega
  · rfl
theorem adB (hi:i<Z.length) (hp:p<65536):cZ (Z.set i (zy (Z.getD i 0) p)) j=cZ Z j:=by
  unfold cZ;rw[qQ (f:=fun x=>x%4294967296) hi];split
  · rename_i e;subst e;unfold zy;omega
  · rfl
theorem adC (hi:i<Z.length) (hp:p<65536):pZ (Z.set i (zy (Z.getD i 0) p)) j=if i=j then p else pZ Z j:=by
  unfold pZ;rw[qQ (f:=fun x=>x/4294967296%65536) hi];split
  · unfold zy;omega
  · rfl
theorem adD (hi:i<Z.length) (hp:p<65536):sZ (Z.set i (zy (Z.getD i 0) p)) j=sZ Z j:=by
  unfold sZ;rw[qQ (f:=fun x=>x/281474976710656%256) hi];split
  · rename_i e;subst e;unfold zy;omega
  · rfl
theorem adE (hi:i<Z.length) (hn:n<256):cZ (Z.set i (l6 (Z.getD i 0) n)) j=cZ Z j:=by
  unfold cZ;rw[qQ (f:=fun x=>x%4294967296) hi];split
  · rename_i e;subst e;unfold l6;omega
  · rfl
theorem akC (hi:i<Z.length) (hn:n<256):pZ (Z.set i (l6 (Z.getD i 0) n)) j=pZ Z j:=by
  unfold pZ;rw[qQ (f:=fun x=>x/4294967296%65536) hi];split
  · rename_i e;subst e;unfold l6;omega
  · rfl
theorem adF (hi:i<Z.length) (hn:n<256):sZ (Z.set i (l6 (Z.getD i 0) n)) j=sZ Z j:=by
  unfold sZ;rw[qQ (f:=fun x=>x/281474976710656%256) hi];split
  · rename_i e;subst e;unfold l6;omega
  · rfl
theorem Cb (hi:i<Z.length) (hn:n<256):bZ (Z.set i (l6 (Z.getD i 0) n)) j=if i=j then n else bZ Z j:=by
  unfold bZ;rw[qQ (f:=fun x=>x/72057594037927936%256) hi];split
  · unfold l6;omega
  · rfl
end
theorem adG (Z:List Nat) (i:Nat):sZ Z i<256:=Nat.mod_lt _ Od
theorem adH (Z:List Nat) (i:Nat):bZ Z i<256:=Nat.mod_lt _ Od
def hB (CN:List Nat) (x:Nat):Nat:=aj (CN.getD x 0+1)-1
theorem zA {CN:List Nat} {x:Nat} (h:CN.getD x 0≤262144):hB CN x≤18:=by
  unfold hB;have:aj (CN.getD x 0+1)≤19:=cW Om;omega
theorem QZ {CN:List Nat} {x y:Nat} (h:hB CN x<hB CN y):CN.getD x 0≤CN.getD y 0:=by
  unfold hB at h;have h1:=gM (CN.getD x 0+1);have h2:=n3 (show 0<CN.getD y 0+1 by omega);have h3:=dk (show 0<CN.getD x 0+1 by omega);have h4:2^aj (CN.getD x 0+1)≤2^(aj (CN.getD y 0+1)-1):=Nat.pow_le_pow_right Om Om;omega
def bq (h:Nat→Nat) (len:Nat):Nat→Nat
  |0=>len
  |r+1=>bk h len r
theorem AI (h:Nat→Nat) (len n:Nat):bq h len (n+1)+lk h n len=bq h len n:=by
  cases n with
  |zero=>exact og h len
  |succ n=>exact qf h n len
theorem xi {P:Nat→Bool}:∀{n:Nat},(∀x,x<n→P x=false)→ct P n=0
  |0,_=>rfl
  |n+1,h=>by simp only[ct];rw[xi fun x hx=>h x Om,h n Om];rfl
theorem Ek {h:Nat→Nat} {len r:Nat} (hr:∀x,x<len→h x≤r):bk h len r=0:=xi fun x hx=>Kv (by have:=hr x hx;omega)
theorem Q1 {h:Nat→Nat} {len r n:Nat} (hr:∀x,x<len→h x<r) (hn:n≤len):lk h r n=0:=xi fun x hx=>Hk (by have:=hr x Om;omega)
theorem Cd {h:Nat→Nat} {r n:Nat}:lk h r (n+1)=lk h r n+if h n=r then 1 else 0:=by
  unfold lk;simp only[ct];split
  · rename_i e;rw[U9 e];rfl
  · rename_i e;rw[Hk e];rfl
section
variable {h:Nat→Nat} {K:List Nat} {len n:Nat}
def K0 (h:Nat→Nat) (K:List Nat) (n:Nat):Prop:=K.length=64∧(∀r,r<32→K.getD (r*2) 0=lk h r n)∧∀r,r<32→K.getD (r*2+1) 0=0
def K1 (h:Nat→Nat) (len:Nat) (K:List Nat) (n:Nat):Prop:=K.length=64∧(∀r,r<32→K.getD (r*2) 0=if n≤r then bq h len r else lk h r len)∧∀r,r<32→K.getD (r*2+1) 0=0
def K2 (h:Nat→Nat) (len:Nat) (K:List Nat) (n:Nat):Prop:=K.length=64∧(∀r,r<32→K.getD (r*2) 0=bq h len r)∧∀r,r<32→K.getD (r*2+1) 0=if r<n then bq h len r else 0
def K3 (h:Nat→Nat) (len:Nat) (K:List Nat) (n:Nat):Prop:=K.length=64∧(∀r,r<32→K.getD (r*2) 0=bq h len r)∧∀r,1≤r→r<32→K.getD (r*2+1) 0=bq h len r+lk h (r-1) n
theorem ta (n i:Nat):(List.replicate n 0).getD i 0=0:=by
  rw[List.getD_eq_getElem?_getD,List.getElem?_replicate];split<;>rfl
theorem K0.begin:K0 h (List.replicate 64 0) 0:=⟨List.length_replicate,fun r hr=>ta 64 _,fun r hr=>ta 64 _⟩
theorem K0.step (hk:K0 h K n) {r:Nat} (hr:r=h n) (qR:r<32):K0 h (K.set (r*2) (K.getD (r*2) 0+1)) (n+1):=by
  obtain⟨h1,h2,h3⟩:=hk;refine⟨by simp[h1],fun q hq=>?_,fun q hq=>?_⟩
  · rw[aH Om,Cd];by_cases e:r=q
    · subst e;rw[if_pos rfl,h2 r hq,if_pos hr.symm]
    · rw[if_neg Om,if_neg Om,h2 q hq];rfl
  · rw[aH Om,if_neg Om];exact h3 q hq
theorem K0.next (hk:K0 h K len) (hh:∀x,x<len→h x≤18):K1 h len K 19:=by
  obtain⟨h1,h2,h3⟩:=hk;refine⟨h1,fun r hr=>?_,h3⟩;rw[h2 r hr];split
  · rename_i h9;rw[Q1 (len:=len) (fun x hx=>by have:=hh x hx;omega) (Nat.le_refl _)];cases r with
    |zero=>omega
    |succ r=>exact(Ek fun x hx=>by have:=hh x hx;omega).symm
  · rfl
theorem K1.step (hk:K1 h len K n) (h1:1≤n) (hn:n≤19):K1 h len (K.set ((n-1)*2) (K.getD ((n-1)*2) 0+K.getD (n*2) 0)) (n-1):=by
  obtain⟨hl,h2,h3⟩:=hk;refine⟨by simp[hl],fun r hr=>?_,fun q hq=>?_⟩
  · rw[aH Om];by_cases e:n-1=r
    · subst e;rw[if_pos rfl,h2 _ hr,h2 n Om,if_neg Om,if_pos (Nat.le_refl _),if_pos (Nat.le_refl _), ←AI h len (n-1),show n-1+1=n by omega,Nat.add_comm]
    · rw[if_neg Om,h2 r hr];by_cases e2:n≤r
      · rw[if_pos e2,if_pos Om]
      · rw[if_neg e2,if_neg Om]
  · rw[aH Om,if_neg Om];exact h3 q hq
theorem K1.next (hk:K1 h len K 0):K2 h len K 0:=by
  obtain⟨hl,h2,h3⟩:=hk;refine⟨hl,fun r hr=>?_,fun r hr=>by rw[if_neg Om];exact h3 r hr⟩;rw[h2 r hr,if_pos (Nat.zero_le _)]
theorem K2.step (hk:K2 h len K n) (hn:n<32):K2 h len (K.set (n*2+1) (K.getD (n*2) 0)) (n+1):=by
  obtain⟨hl,h2,h3⟩:=hk;refine⟨by simp[hl],fun r hr=>?_,fun r hr=>?_⟩
  · rw[aH Om,if_neg Om];exact h2 r hr
  · rw[aH Om];by_cases e:n=r
    · subst e;rw[if_pos rfl,if_pos Om];exact h2 n hn
    · rw[if_neg Om,h3 r hr];by_cases e2:r<n
      · rw[if_pos e2,if_pos Om]
      · rw[if_neg e2,if_neg Om]
theorem K2.next (hk:K2 h len K 19) (hh:∀x,x<len→h x≤18):K3 h len K 0:=by
  obtain⟨hl,h2,h3⟩:=hk;refine⟨hl,h2,fun r h1 hr=>?_⟩;rw[h3 r hr];have:lk h (r-1) 0=0:=rfl;rw[this];split
  · rfl
  · rename_i h9;cases r with
    |zero=>omega
    |succ r=>exact(Ek fun x hx=>by have:=hh x hx;omega).symm
theorem K3.step (hk:K3 h len K n) {r:Nat} (hr:r=h n+1) (qR:r<32):K3 h len (K.set (r*2+1) (K.getD (r*2+1) 0+1)) (n+1):=by
  obtain⟨hl,h2,h3⟩:=hk;refine⟨by simp[hl],fun q hq=>?_,fun q h1 hq=>?_⟩
  · rw[aH Om,if_neg Om];exact h2 q hq
  · rw[aH Om,Cd];by_cases e:r=q
    · subst e;rw[if_pos rfl,h3 r Om hq,if_pos Om];omega
    · rw[if_neg Om,if_neg Om,h3 q h1 hq];rfl
theorem K3.at_ (hk:K3 h len K n) {r:Nat} (hr:r=h n+1) (qR:r<32):K.getD (r*2) 0=bk h len (h n)∧K.getD (r*2+1) 0=bk h len (h n)+lk h (h n) n:=by
  obtain⟨hl,h2,h3⟩:=hk;subst hr;exact⟨h2 _ qR,h3 _ Om qR⟩
end
def zz (Z:List Nat) (i:Nat):Nat × Nat:=(cZ Z (1+i),sZ Z (1+i))
theorem KW {Z Z':List Nat} {i j:Nat} (h:Z.getD (1+i) 0=Z'.getD (1+j) 0):zz Z i=zz Z' j:=by unfold zz cZ sZ;rw[h]
theorem adI {Z:List Nat} {i c s:Nat} (h:Z.getD (1+i) 0=Pj c s) (hc:c<4294967296) (hs:s<256):zz Z i=(c,s):=by
  unfold zz cZ sZ;rw[h];unfold Pj;congr 1<;>omega
structure Q2 (Z0 Z:List Nat) (c b p p0:Nat):Prop where
  pb:b≤p∧p≤p0∧p0≤255
  len:Z.length=513
  z1:∀i,i<p→Z.getD (1+i) 0=Z0.getD (1+i) 0
  z3:∀i,p≤i→i<p0→Z.getD (1+(i+1)) 0=Z0.getD (1+i) 0
  z4:∀i,p0<i→Z.getD (1+i) 0=Z0.getD (1+i) 0
  hi:∀i,p≤i→i<p0→cZ Z0 (1+i)<c
section
variable {Z0 Z:List Nat} {c b p p0:Nat}
theorem Q2.begin (h1:b≤p0) (h2:p0≤255) (hl:Z0.length=513):Q2 Z0 Z0 c b p0 p0:=⟨⟨h1,Nat.le_refl _,h2⟩,hl,fun _ _=>rfl,fun i h3 h4=>Om,fun _ _=>rfl,fun i h3 h4=>Om⟩
theorem Q2.step (h:Q2 Z0 Z c b p p0) (hp:b<p) {y:Nat} (hy:y=Z.getD (1+(p+511)%512) 0) (hc:y%4294967296<c):Q2 Z0 (Z.set (1+p) y) c b (p-1) p0:=by
  obtain⟨h1,h2,h3⟩:=h.pb;have hl:=h.len;have e:(p+511)%512=p-1:=Om;rw[e] at hy;have hy2:y=Z0.getD (1+(p-1)) 0:=by rw[hy];exact h.z1 (p-1) Om
  refine⟨⟨Om,Om,h3⟩,by simp[hl],fun i hi=>?_,fun i hi hj=>?_,fun i hi=>?_,fun i hi hj=>?_⟩
  · rw[aH Om,if_neg Om];exact h.z1 i Om
  · rw[aH Om];by_cases e2:i+1=p
    · rw[if_pos Om,hy2,show p-1=i by omega]
    · rw[if_neg Om];exact h.z3 i Om hj
  · rw[aH Om,if_neg Om];exact h.z4 i hi
  · by_cases e2:i+1=p
    · unfold cZ;rw[show i=p-1 by omega, ←hy2];exact hc
    · exact h.hi i Om hj
theorem Q2.fin {len n:Nat} {CN:List Nat} (h:Q2 Z0 Z (CN.getD n 0) (bk (hB CN) len (hB CN n)) p (bk (hB CN) len (hB CN n)+lk (hB CN) (hB CN n) n)) (H:HS len (fun x=>CN.getD x 0) (hB CN) n (zz Z0)) (hn:n<len) (hl:len≤256) (hc:CN.getD n 0≤262144)
    (pA:p=bk (hB CN) len (hB CN n)∨CN.getD n 0≤Z.getD (1+(p+511)%512) 0%4294967296):HS len (fun x=>CN.getD x 0) (hB CN) (n+1) (zz (Z.set (1+p) (Pj (CN.getD n 0) n))):=by
  obtain⟨h1,h2,h3⟩:=h.pb;have hlen:=h.len;refine H.put hn ⟨h1,h2⟩ ?_ (fun i hi hj=>h.hi i hi hj) (fun i hi=>?_) ?_ (fun i hi hj=>?_) (fun i hi=>?_)
  · rcases pA with pA|pA
    · exact .inl pA
    · by_cases e:p=bk (hB CN) len (hB CN n)
      · exact .inl e
      · right;rw[show(p+511)%512=p-1 by omega,h.z1 (p-1) Om] at pA;exact pA
  · exact KW (by rw[aH Om,if_neg Om];exact h.z1 i hi)
  · exact adI (by rw[aH Om,if_pos rfl]) Om Om
  · exact KW (by rw[aH Om,if_neg Om];exact h.z3 i hi hj)
  · exact KW (by rw[aH Om,if_neg Om];exact h.z4 i hi)
end
structure zB (CN Z:List Nat) (len:Nat):Prop where
  BY:∀i,i<len→∃x,x<len∧cZ Z (1+i)=CN.getD x 0∧sZ Z (1+i)=x
  Q3:∀x,x<len→∃i,i<len∧cZ Z (1+i)=CN.getD x 0∧sZ Z (1+i)=x
  mY:∀i j,i≤j→j<len→cZ Z (1+j)≤cZ Z (1+i)
theorem zB.of {CN Z:List Nat} {len:Nat} (H:HS len (fun x=>CN.getD x 0) (hB CN) len (zz Z)) (hh:∀x,x<len→CN.getD x 0≤262144):zB CN Z len:=by
  obtain⟨h1,h2,h3⟩:=H.fin (R:=18) (Ek fun x hx=>zA (hh x hx)) fun x y _ _ h=>QZ h
  refine⟨fun i hi=>?_,fun x hx=>?_,fun i j Bg hj=>h3 i j Bg hj⟩
  · obtain⟨x,a,b⟩:=h1 i hi;exact⟨x,a,congrArg Prod.fst b,congrArg Prod.snd b⟩
  · obtain⟨i,a,b⟩:=h2 x hx;exact⟨i,a,congrArg Prod.fst b,congrArg Prod.snd b⟩
theorem AJ {x:Nat}:x&&&511=x%512:=Nat.and_two_pow_sub_one_eq_mod x 9
theorem F8 {p:Nat} (h:p≤1000):(p+4294967296-1)%4294967296&&&511=(p+511)%512:=by rw[AJ];omega
theorem VF {CN:List Nat} {x:Nat} (h:CN.getD x 0≤262144):aj (CN.getD x 0+1)-1&&&31=hB CN x:=by
  have:=zA h;rw[show(31:Nat)=2^5-1 from rfl,Nat.and_two_pow_sub_one_eq_mod];exact Nat.mod_eq_of_lt (by unfold hB at this;omega)
theorem VG {CN:List Nat} {x:Nat} (h:CN.getD x 0≤262144):aj (CN.getD x 0+1)-1+1&&&31=hB CN x+1:=by
  have:=zA h;rw[show(31:Nat)=2^5-1 from rfl,Nat.and_two_pow_sub_one_eq_mod];exact Nat.mod_eq_of_lt (by unfold hB at this;omega)
def bL (Z:List Nat) (N:Nat):List Nat:=(List.range N).map fun i=>bZ Z (1+i)
theorem eV (Z:List Nat) (N:Nat):(bL Z N).length=N:=by simp[bL]
theorem fF {Z:List Nat} {N i:Nat} (h:i<N):(bL Z N).getD i 0=bZ Z (1+i):=by simp[bL,List.getD_eq_getElem?_getD,h]
theorem KX {Z:List Nat} {N p n:Nat} (hp:p<N) (hl:N<Z.length) (hn:n<256):bL (Z.set (1+p) (l6 (Z.getD (1+p) 0) n)) N=(bL Z N).set p n:=by
  refine pJ (by rw[List.length_set,eV,eV]) fun i hi=>?_
  rw[eV] at hi;rw[fF hi,Cb Om hn,Hi (by rw[eV];exact hp),fF hi];by_cases e:p=i
  · subst e;rw[if_pos rfl,if_pos rfl]
  · rw[if_neg Om,if_neg Om]
def pK (Z0 Z:List Nat):Prop:=∀i,cZ Z i=cZ Z0 i∧sZ Z i=sZ Z0 i
theorem pK.Q4 (Z:List Nat):pK Z Z:=fun i=>⟨rfl,rfl⟩
theorem pK.B {Z0 Z:List Nat} (h:pK Z0 Z) {j n:Nat} (hj:j<Z.length) (hn:n<256):pK Z0 (Z.set j (l6 (Z.getD j 0) n)):=fun i=>by rw[adE hj hn,adF hj hn];exact h i
structure Pk (b0:Nat→Nat) (L N:Nat):Prop where
  N2:2≤N∧N≤256
  mY:∀i j,i≤j→j<N→b0 i≤b0 j
  rV:∀i,i<N→1≤b0 i∧b0 i≤L
  top:b0 (N-1)=L
  sum:sm (fun i=>2^(L-b0 i)) N=2^L
section
variable {b0:Nat→Nat} {L N M q tc:Nat} {Z Z0:List Nat}
theorem Pk.first (h:Pk b0 L N) (hN:N≤2^M) (hL:M<L):b0 0≤M:=by
  apply Classical.byContradiction;intro hn;have h1:sm (fun i=>2^(L-b0 i)) N≤sm (fun _=>2^(L-M-1)) N:=FO fun i hi=>by
    have h2:=h.mY 0 i (Nat.zero_le _) hi;exact Nat.pow_le_pow_right Om Om
  rw[h.sum,gV] at h1;have h3:N*2^(L-M-1)≤2^M*2^(L-M-1):=Nat.mul_le_mul_right _ hN;rw[←Nat.pow_add] at h3;have h4:2^(M+(L-M-1))<2^L:=Nat.pow_lt_pow_right Om Om;omega
structure Cut (b0:Nat→Nat) (L N M:Nat) (Z:List Nat) (q tc:Nat):Prop where
  ql:q<N
  bits:∀i,i<N→bZ Z (1+i)=if i≤q then b0 i else M
  hi:∀i,q<i→i<N→M<b0 i
  cost:tc=sm (fun j=>2^(L-M)-2^(L-b0 (q+1+j))) (N-1-q)
theorem Cut.begin (h:Pk b0 L N) (hb:∀i,i<N→bZ Z (1+i)=b0 i):Cut b0 L N M Z (N-1) 0:=by
  have:=h.N2;exact⟨Om,fun i hi=>by rw[if_pos Om];exact hb i hi,fun i h1 h2=>Om,by rw[show N-1-(N-1)=0 by omega];rfl⟩
theorem Cut.small (h:Cut b0 L N M Z q tc) (hH:Pk b0 L N) (hL:L≤40):tc≤256*2^40:=by
  have h1:tc≤sm (fun _=>2^40) (N-1-q):=by
    rw[h.cost];exact FO fun j hj=>by
      have:2^(L-M)≤2^40:=Nat.pow_le_pow_right Om Om;exact Nat.le_trans (Nat.sub_le _ _) this
  rw[gV] at h1;have:=hH.N2;exact Nat.le_trans h1 (Nat.mul_le_mul_right _ Om)
theorem Cut.step (h:Cut b0 L N M Z q tc) (hH:Pk b0 L N) (hN:N≤2^M) (U8:M<L) (hq:M<bZ Z (1+q)) (hl:N<Z.length) (hM:M<256):1≤q∧Cut b0 L N M (Z.set (1+q) (l6 (Z.getD (1+q) 0) M)) (q-1) (tc+(2^(L-M)-2^(L-bZ Z (1+q)))):=by
  have hb:=h.bits q h.ql;rw[if_pos (Nat.le_refl _)] at hb;rw[hb] at hq ⊢;have hf:=hH.first hN U8
  have hq1:1≤q:=by
    apply Classical.byContradiction;intro hn;have:q=0:=Om;rw[this] at hq;omega
  have Td:=h.ql;refine⟨hq1,Om,fun i hi=>?_,fun i h1 h2=>?_,?_⟩
  · rw[Cb Om hM];by_cases e:i=q
    · subst e;rw[if_pos rfl,if_neg Om]
    · rw[if_neg Om,h.bits i hi];by_cases e2:i≤q
      · rw[if_pos e2,if_pos Om]
      · rw[if_neg e2,if_neg Om]
  · by_cases e:i=q
    · subst e;exact hq
    · exact h.hi i Om h2
  · rw[show N-1-(q-1)=(N-1-q)+1 by omega,l4,h.cost,show q-1+1+0=q by omega,Nat.add_comm];congr 1;apply cD;intro j hj;show _=2^(L-M)-2^(L-b0 (q+(j+1)));rw[show q+(j+1)=q+1+j by omega]
structure Te (M N:Nat) (Z:List Nat) (T:Nat):Prop where
  mY:∀i j,i≤j→j<N→bZ Z (1+i)≤bZ Z (1+j)
  rV:∀i,i<N→1≤bZ Z (1+i)∧bZ Z (1+i)≤M
  T1:1≤T
  sum:kr M (bL Z N)=2^M+T
  mm:T<l3 M (bL Z N)
theorem Cut.fin (h:Cut b0 L N M Z q tc) (hH:Pk b0 L N) (U8:M<L) (hM:1≤M) (hq:bZ Z (1+q)≤M):Te M N Z (tc/2^(L-M))∧∀i,q<i→i<N→bZ Z (1+i)=M:=by
  have hb:=h.bits q h.ql;rw[if_pos (Nat.le_refl _)] at hb;have Td:=h.ql;have hN:=hH.N2;have hqN:q+1<N:=by
    apply Classical.byContradiction;intro hn;have:q=N-1:=Om;rw[hb,this,hH.top] at hq;omega
  have h1:∀i,i≤q→b0 i≤M:=fun i hi=>by have:=hH.mY i q hi Td;omega
  obtain⟨T,t1,t2,t3,t4⟩:=U7 (bs:=bL Z N) U8 hqN h1 (fun i a b=>⟨h.hi i a b,(hH.rV i b).2⟩) hH.sum (eV Z N) (fun i hi=>by rw[fF hi];exact h.bits i hi);have hT:tc/2^(L-M)=T:=by rw[h.cost,t1,Nat.mul_div_cancel _ (Nat.two_pow_pos _)]
  rw[hT];refine⟨⟨fun i j Bg hj=>?_,fun i hi=>?_,t2,t3,t4⟩,fun i a b=>by rw[h.bits i b,if_neg Om]⟩
  · rw[h.bits i Om,h.bits j hj];have:=hH.mY i j Bg hj;by_cases e:i≤q
    · rw[if_pos e];by_cases e2:j≤q
      · rw[if_pos e2];exact this
      · rw[if_neg e2];exact h1 i e
    · rw[if_neg e,if_neg Om];exact Nat.le_refl _
  · rw[h.bits i hi];have:=hH.rV i hi;by_cases e:i≤q
    · rw[if_pos e];exact⟨this.1,h1 i e⟩
    · rw[if_neg e];exact⟨hM,Nat.le_refl _⟩
theorem Te.short {T:Nat} (h:Te M N Z T) (hN:N≤2^M):∃i,i<N∧bZ Z (1+i)<M:=by
  apply Classical.byContradiction;intro hn;have ha:∀i,i<(bL Z N).length→(bL Z N).getD i 0=M:=fun i hi=>by
    rw[eV] at hi;rw[fF hi];have h1:=h.rV i hi;rcases Nat.lt_or_ge (bZ Z (1+i)) M with h2|h2
    · exact(hn ⟨i,hi,h2⟩).elim
    · omega
  have h1:=D3 ha;have h2:=h.sum;have h3:=h.T1;rw[h1,eV] at h2;omega
theorem Te.prev {T:Nat} (h:Te M N Z T) (hN:N≤2^M) (ha:∀i,q<i→i<N→bZ Z (1+i)=M) (hq:bZ Z (1+q)=M):1≤q:=by
  obtain⟨i,hi,hl⟩:=h.short hN;apply Classical.byContradiction;intro hn;by_cases e:i=q
  · subst e;omega
  · have:=ha i Om hi;omega
end
theorem Ce {Z:List Nat} {q N M:Nat} (ha:∀i,q<i→i<N→bZ Z (1+i)=M) (hq:bZ Z (1+q)=M) (h1:1≤q):∀i,q-1<i→i<N→bZ Z (1+i)=M:=fun i h2 h3=>by
  by_cases e:i=q
  · subst e;exact hq
  · exact ha i Om h3
structure Ip (M N:Nat) (Z:List Nat) (q k cu:Nat) (rl:List Nat):Prop where
  len:rl.length=13
  kq:k≤q+1
  cu1:k≤q→cu=bZ Z (1+k)
  cu2:k=q+1→cu=M
  rk:∀j,1≤j→j≤12→(rl.getD j 0=ni∧∀i,k≤i→i<N→bZ Z (1+i)+j≠M)∨(rl.getD j 0<N∧bZ Z (1+rl.getD j 0)+j=M∧∀i,rl.getD j 0<i→i<N→bZ Z (1+i)+j≠M)
section
variable {M N q k cu T:Nat} {Z rl:List Nat}
theorem Ip.begin (hl:rl.length=13) (hr:∀i,i<13→rl.getD i 0=ni) (ha:∀i,q<i→i<N→bZ Z (1+i)=M):Ip M N Z q (q+1) M rl:=
  ⟨hl,Nat.le_refl _,fun h=>Om,fun _=>rfl,fun j h1 h2=>.inl ⟨hr j Om,fun i h3 h4=>by rw[ha i Om h4];omega⟩⟩
theorem Ip.same (h:Ip M N Z q k cu rl) (hc:Te M N Z T) (hk:1≤k) (hq:q<N) (hqM:bZ Z (1+q)≠M) (hb:¬bZ Z (1+(k-1))<cu):Ip M N Z q (k-1) cu rl:=by
  have hkq:=h.kq;have h1:=hc.mY (k-1) q Om hq;have h2:=hc.rV q hq;have yl:k≤q:=by
    apply Classical.byContradiction;intro hn;have:=h.cu2 Om;omega
  have hcu:=h.cu1 yl;have h3:=hc.mY (k-1) k Om Om;refine⟨h.len,Om,fun _=>Om,fun _=>Om,fun j j1 j2=>?_⟩;rcases h.rk j j1 j2 with ⟨r1,r2⟩|r
  · refine .inl ⟨r1,fun i h4 h5=>?_⟩;by_cases e:i=k-1
    · subst e;have:=r2 k (Nat.le_refl _) Om;omega
    · exact r2 i Om h5
  · exact .inr r
theorem Ip.new (h:Ip M N Z q k cu rl) (hc:Te M N Z T) (hk:1≤k) (hq:q<N) (ha:∀i,q<i→i<N→bZ Z (1+i)=M) (hM:M≤11) (hb:bZ Z (1+(k-1))<cu):Ip M N Z q (k-1) (bZ Z (1+(k-1))) (rl.set (M-bZ Z (1+(k-1))) (k-1)):=by
  have hkq:=h.kq;have hl:=h.len;have hr:=hc.rV (k-1) Om;have hcM:cu≤M:=by
    rcases Nat.lt_or_ge q k with e|e
    · have:=h.cu2 Om;omega
    · have:=h.cu1 e;have:=hc.rV k Om;omega
  have hup:∀i,k≤i→i<N→cu≤bZ Z (1+i):=fun i h1 h2=>by
    rcases Nat.lt_or_ge q k with e|e
    · rw[ha i Om h2];exact hcM
    · rw[h.cu1 e];exact hc.mY k i h1 h2
  refine⟨by simp[hl],Om,fun _=>by rw[show 1+(k-1)=1+(k-1) from rfl],fun _=>Om,fun j j1 j2=>?_⟩;rw[aH Om];by_cases e:M-bZ Z (1+(k-1))=j
  · rw[if_pos e];refine .inr ⟨Om,Om,fun i h1 h2=>?_⟩;have:=hup i Om h2;omega
  · rw[if_neg e];rcases h.rk j j1 j2 with ⟨r1,r2⟩|r
    · refine .inl ⟨r1,fun i h4 h5=>?_⟩;by_cases e2:i=k-1
      · subst e2;omega
      · exact r2 i Om h5
    · exact .inr r
theorem Ip.fin (h:Ip M N Z q 0 cu rl) (hc:Te M N Z T) (hM:M≤11) (hN:N≤256) (uF:N≤2^M):w5 M (bL Z N) ((T:Nat):Int) rl:=by
  have hT:=hc.T1;have hs:=hc.sum;have hm:=hc.mm;refine⟨hM,by rw[eV];exact⟨hN,uF⟩,fun i j Bg hj=>?_,fun i hi=>?_,by rw[hs];push_cast;rfl,⟨Om,Om⟩,fun h9=>Om,h.len,fun j j1 j2=>?_⟩
  · rw[eV] at hj;rw[fF Om,fF hj];exact hc.mY i j Bg hj
  · rw[eV] at hi;rw[fF hi];exact hc.rV i hi
  · rcases h.rk j j1 j2 with ⟨r1,r2⟩|⟨r1,r2,r3⟩
    · refine .inl ⟨r1,fun i hi=>?_⟩;rw[eV] at hi;rw[fF hi];exact r2 i (Nat.zero_le _) hi
    · refine .inr ⟨by rw[eV];exact r1,by rw[fF r1];exact r2,fun i h4 hi=>?_⟩;rw[eV] at hi;rw[fF hi];exact r3 i h4 hi
end
section
variable {M N q k:Nat} {Z rl:List Nat} {T:Int}
theorem w5.atZ (h:w5 M (bL Z N) T rl) {k:Nat} (h1:1≤k) (h2:k≤12) (hk:rl.getD k 0≠ni):rl.getD k 0<N∧bZ Z (1+rl.getD k 0)+k=M∧1≤bZ Z (1+rl.getD k 0):=by
  obtain⟨a,b,c⟩:=h.at_ h1 h2 hk;have d:=h.rV _ a;rw[eV] at a;rw[fF a] at b d;exact⟨a,b,d.1⟩
theorem w5.small (h:w5 M (bL Z N) T rl):T≤256:=by
  have h1:=h.mm;have h2:=Am (M:=M) (bs:=bL Z N);have h3:=h.len.1;omega
theorem w5.sY (h:w5 M (bL Z N) T rl) (hT:0<T) {k p:Nat} (h1:1≤k) (h2:k≤12) (hk:rl.getD k 0≠ni) (hp:p=rl.getD k 0) (hl:N<Z.length)
    (hc:2^(k-1)≤T.toNat∨∀j,1≤j→j<k→rl.getD j 0=ni) {r1 rl':List Nat} (yy:r1=if rl.getD (k-1) 0=ni then rl.set (k-1) p else rl)
    (hrl:(p=0∧rl'=r1.set k ni)∨(p≠0∧bZ Z (1+(p-1))+k=M∧rl'=r1.set k (p-1))∨(p≠0∧bZ Z (1+(p-1))+k≠M∧rl'=r1.set k ni)) {w:Nat} (hw:w=1+bZ Z (1+p)):
    w5 M (bL (Z.set (1+p) (l6 (Z.getD (1+p) 0) w)) N) (T-((2^(k-1):Nat):Int)) rl':=by
  subst hp;obtain⟨a,b,c⟩:=h.atZ h1 h2 hk;have El:w=M-k+1:=Om;have hM:=h.U5;rw[KX a hl Om,El];have hs:=h.step hT h1 h2 hk (by
    by_cases e:((2^(k-1):Nat):Int)≤T
    · exact .inl e
    · refine .inr ⟨Om,?_⟩;rcases hc with hc|hc
      · omega
      · exact hc)
  have e:rl'=rD M (bL Z N) rl k (rl.getD k 0):=by
    unfold rD;simp only[];rw[←yy];rcases hrl with ⟨e1,e2⟩|⟨e1,e2,e3⟩|⟨e1,e2,e3⟩
    · rw[if_pos e1,e2]
    · rw[if_neg e1,fF Om,if_pos e2,e3]
    · rw[if_neg e1,fF Om,if_neg e2,e3]
  rw[e];exact hs
theorem kE {p w:Nat} (ha:∀i,q<i→i<N→bZ Z (1+i)=M) (hp:p<N) (hb:bZ Z (1+p)≠M) (hl:N<Z.length) (hw:w<256):∀i,q<i→i<N→bZ (Z.set (1+p) (l6 (Z.getD (1+p) 0) w)) (1+i)=M:=fun i h1 h2=>by
  rw[Cb Om hw];split
  · rename_i e;have:p=i:=Om;subst this;exact absurd (ha p h1 hp) hb
  · exact ha i h1 h2
theorem w5.akD (h:w5 M (bL Z N) T rl) (hT:T≤0) (hq:q<N) (ha:∀i,q<i→i<N→bZ Z (1+i)=M):w6 M (bL Z N) T (rl.getD 1 0) q:=
  h.pay hT ⟨by rw[eV];exact hq,fun i h1 h2=>by rw[eV] at h2;rw[fF h2];exact ha i h1 h2⟩
theorem w6.prev {v n:Nat} (h:w6 M (bL Z N) T v n) (hT:T<0) (ha:∀i,q<i→i<N→bZ Z (1+i)=M) (hq:bZ Z (1+q)=M):1≤q:=by
  obtain⟨i,hi,hl⟩:=h.ex hT;rw[eV] at hi;rw[fF hi] at hl;apply Classical.byContradiction;intro hn;by_cases e:i=q
  · subst e;omega
  · have:=ha i Om hi;omega
theorem w6.nnZ {n:Nat} {v:Nat} (h:w6 M (bL Z N) T v n) (hv:v=ni):n<N∧∀i,n<i→i<N→bZ Z (1+i)=M:=by
  obtain⟨a,b⟩:=h.nn hv;rw[eV] at a;exact⟨a,fun i h1 h2=>by have:=b i h1 (by rw[eV];exact h2);rwa [fF h2] at this⟩
theorem w6.VH {v n:Nat} (h:w6 M (bL Z N) T v n) (hT:T<0) (hq:q<N) (h2:bZ Z (1+q)≠M) (ha:∀i,q<i→i<N→bZ Z (1+i)=M):q+1<N∧bZ Z (1+(q+1))=M∧∀i,i<q+1→(bL Z N).getD i 0<M:=by
  obtain⟨a,b,c⟩:=h.first hT (n':=q) (by rw[eV];exact hq) (by rw[fF hq];exact h2) (fun i h1 h3=>by rw[eV] at h3;rw[fF h3];exact ha i h1 h3)
  rw[eV] at a;rw[fF a] at b;exact⟨a,b,c⟩
theorem w6.adJ {v n:Nat} (h:w6 M (bL Z N) T v n) (hT:T<0) (hv:v≠ni):v+1<N∧bZ Z (1+(v+1))=M∧∀i,i<v+1→(bL Z N).getD i 0<M:=by
  obtain⟨a,b,c⟩:=h.next hT hv;rw[eV] at a;rw[fF a] at b;exact⟨a,b,c⟩
theorem w6.VI {v n p w:Nat} (h:w6 M (bL Z N) T v n) (hT:T<0) (hp:p<N) (hM:bZ Z (1+p)=M) (hl:∀i,i<p→(bL Z N).getD i 0<M) (hZ:N<Z.length) (hw:w=bZ Z (1+p)-1) (n':Nat):w6 M (bL (Z.set (1+p) (l6 (Z.getD (1+p) 0) w)) N) (T+1) p n':=by
  have ve:=h.U5;rw[KX hp hZ Om,hw,hM];exact h.put hT (by rw[eV];exact hp) (by rw[fF hp];exact hM) hl n'
structure Whl (Z:List Nat) (N R:Nat):Prop where
  rV:∀i,i<N→1≤bZ Z (1+i)∧bZ Z (1+i)≤R
  sum:sm (fun i=>2^(R-bZ Z (1+i))) N=2^R
  top:∃i,i<N∧bZ Z (1+i)=R
theorem w6.done {v n:Nat} (h:w6 M (bL Z N) T v n) (hT:¬T<0):Whl Z N M:=by
  have h0:=h.T0;have hs:=h.sum;have hm:=h.mm;have Ta:T=0:=Om;subst Ta;refine⟨fun i hi=>by have:=h.rV i (by rw[eV];exact hi);rwa [fF hi] at this,?_,?_⟩
  · have h1:kr M (bL Z N)=2^M:=Om;rw[Ku,eV] at h1;rw[←h1];exact cD fun i hi=>by rw[fF hi]
  · obtain⟨i,hi,he⟩:=sV (M:=M) (bs:=bL Z N) Om;rw[eV] at hi;rw[fF hi] at he;exact⟨i,hi,he⟩
theorem Pk.done {b0:Nat→Nat} {L:Nat} (h:Pk b0 L N) (hb:∀i,i<N→bZ Z (1+i)=b0 i):Whl Z N L:=by
  have hN:=h.N2;refine⟨fun i hi=>by rw[hb i hi];exact h.rV i hi,?_,⟨N-1,Om,by rw[hb _ Om];exact h.top⟩⟩;rw[←h.sum];exact cD fun i hi=>by rw[hb i hi]
end
def td (N sl m p u c S B0 B:Nat) (K Q:Nat→Nat):Prop:=Tr N (fun i=>K (1+i)) m p u c S B0 B (fun a=>K (1+sl+a)) (fun i=>Q (1+i)) (fun a=>Q (1+sl+a))
section
variable {N sl m p u c S B0 B:Nat} {K Q:Nat→Nat}
theorem td.num (h:td N sl m p u c S B0 B K Q):N-u+c=2*m+p∧u≤N∧c≤m∧p≤2:=Tr.num h
theorem td.leaf (h:td N sl m p u c S B0 B K Q) (hN:N≤sl) (hp:p≤1) (hu:0<u) (hc:c=m∨K u≤K (1+sl+c)):td N sl m (p+1) (u-1) c (S+K u) B0 (K u) K (fun j=>if j=u then m else Q j):=by
  have hn:=h.num;have e:1+(u-1)=u:=Om;have h1:=Tr.leaf h hp hu (by show c=m∨K (1+(u-1))≤_;rw[e];exact hc);simp only[e] at h1;refine h1.congr (fun a ha=>rfl) (fun i h2 h3=>?_) (fun a ha=>?_)
  · show(if 1+i=u then m else Q (1+i))=if i=u-1 then m else Q (1+i)
    by_cases e2:i=u-1
    · rw[if_pos e2,if_pos Om]
    · rw[if_neg e2,if_neg Om]
  · show(if 1+sl+a=u then m else Q (1+sl+a))=Q (1+sl+a);rw[if_neg Om]
theorem td.inner (h:td N sl m p u c S B0 B K Q) (hN:N≤sl) (hp:p≤1) (yb:c<m) (hc:u=0∨K (1+sl+c)≤K u):td N sl m (p+1) u (c+1) (S+K (1+sl+c)) B0 (K (1+sl+c)) K (fun j=>if j=1+sl+c then m else Q j):=by
  have hn:=h.num;have h1:=Tr.inner h hp yb (by
    rcases hc with hc|hc
    · exact .inl hc
    · by_cases e0:u=0
      · exact .inl e0
      · right;show K (1+sl+c)≤K (1+(u-1));rw[show 1+(u-1)=u by omega];exact hc)
  refine h1.congr (fun a ha=>rfl) (fun i h2 h3=>?_) (fun a ha=>?_)
  · show(if 1+i=1+sl+c then m else Q (1+i))=Q (1+i);rw[if_neg Om]
  · show(if 1+sl+a=1+sl+c then m else Q (1+sl+a))=if a=c then m else Q (1+sl+a)
    by_cases e2:a=c
    · rw[if_pos e2,if_pos Om]
    · rw[if_neg e2,if_neg Om]
theorem TrC {N m p u c S B0 B:Nat} {C C' CI PL PI:Nat→Nat} (h:Tr N C m p u c S B0 B CI PL PI) (hC:∀i,i<N→C' i=C i):Tr N C' m p u c S B0 B CI PL PI:=by
  have hn:=h.num;have hs:∀n,n≤N→sm C' n=sm C n:=fun n h1=>cD fun i hi=>hC i Om
  constructor
  · exact h.num
  · intro i j a b;rw[hC i Om,hC j b];exact h.mY i j a b
  · exact h.pl
  · exact h.pi
  · exact h.ml
  · exact h.mi
  · exact h.w
  · exact h.bb
  · intro i a b;rw[hC i b];exact h.c1 i a b
  · exact h.c2
  · intro i a;rw[hC i Om];exact h.c3 i a
  · exact h.c4
  · exact h.cs
  · exact h.cm
  · exact h.ti
  · intro i a b d e;rw[hC i b];exact h.g1 i a b d e
  · exact h.g2
  · intro i a b d;rw[hC i b];exact h.q1 i a b d
  · exact h.q2
  · rw[hs u Om,hs N (Nat.le_refl _)];exact h.ff
theorem td.node (h:td N sl m 2 u c S B0 B K Q) {K' Q':Nat→Nat} (hK:∀j,j≠1+sl+m→j≤1+sl+m→K' j=K j) (hKm:K' (1+sl+m)=S) (hN:N≤sl) (hQ:∀j,(u<j∧j≤N)∨(sl<j∧j<1+sl+c)→Q' j=Q j):td N sl (m+1) 0 u c 0 B B K' Q':=by
  have h1:=Tr.node h;have h2:Tr N (fun i=>K (1+i)) (m+1) 0 u c 0 B B (fun a=>K' (1+sl+a)) (fun i=>Q' (1+i)) (fun a=>Q' (1+sl+a)):=by
    refine h1.congr (fun a ha=>?_) (fun i h2 h3=>hQ _ (.inl ⟨Om,Om⟩)) (fun a ha=>hQ _ (.inr ⟨Om,Om⟩));show K' (1+sl+a)=if a=m then S else K (1+sl+a)
    by_cases e:a=m
    · subst e;rw[if_pos rfl,hKm]
    · rw[if_neg e];exact hK _ Om Om
  have hn:=h.num;exact TrC h2 (fun i hi=>(hK (1+i) Om Om))
theorem td.begin {N sl:Nat} {K:Nat→Nat} (hs:∀i j,i≤j→j<N→K (1+j)≤K (1+i)) (Q:Nat→Nat):td N sl 0 0 N 0 0 0 0 K Q:=Tr.begin (C:=fun i=>K (1+i)) (fun i j a b=>hs i j a b) _ _ _
theorem td.small (h:td N sl m p u c S B0 B K Q) (h1:c<m):K (1+sl+c)≤sm (fun i=>K (1+i)) N:=by
  have ht:=Tr.ff h;have h2:=l5 (W:=fun a=>K (1+sl+a)) (show c+1≤m by omega);simp only[sm] at h2;omega
theorem td.pick (h:td N sl m p u c S B0 B K Q) (hN:N≤sl) (hp:p≤1) (hm:m+1<N) (hb:K 0=2147483648) (hf:∀a,m≤a→a+1<N→K (1+sl+a)=1073741824) (hK:sm (fun i=>K (1+i)) N<1073741824):
    (K u<K (1+sl+c)→1≤u∧td N sl m (p+1) (u-1) c (S+K u) B0 (K u) K (fun j=>if j=u then m else Q j))∧
    (¬K u<K (1+sl+c)→c<m∧td N sl m (p+1) u (c+1) (S+K (1+sl+c)) B0 (K (1+sl+c)) K (fun j=>if j=1+sl+c then m else Q j)):=by
  have hn:=h.num;have Hj:K (1+sl+c)≤1073741824∨c<m:=by
    by_cases e:c<m
    · exact .inr e
    · left;rw[hf c Om Om];exact Nat.le_refl _
  constructor
  · intro eU;have hu:1≤u:=by
      apply Classical.byContradiction;intro hu;have e:u=0:=Om;rw[e,hb] at eU;rcases Hj with h9|h9
      · omega
      · have:=h.small h9;omega
    exact⟨hu,h.leaf hN hp hu (by
      by_cases e:c=m
      · exact .inl e
      · exact .inr (Nat.le_of_lt eU))⟩
  · intro zR;have yb:c<m:=by
      apply Classical.byContradiction;intro DO;have e:c=m:=Om;rw[e,hf m (Nat.le_refl _) hm] at zR;by_cases e0:u=0
      · omega
      · have:=pI (W:=fun i=>K (1+i)) (i:=u-1) (n:=N) Om;simp only[show 1+(u-1)=u by omega] at this;omega
    refine⟨yb,h.inner hN hp yb ?_⟩;by_cases e0:u=0
    · exact .inl e0
    · right;omega
end
def Em (N sl u c j:Nat):Prop:=(u<j∧j≤N)∨(sl<j∧j<1+sl+c)
structure TW (Z0 Z:List Nat) (N sl m u c B:Nat) (Q:Nat→Nat):Prop where
  tr:td N sl m 0 u c 0 B B (cZ Z) Q
  kl:∀i,i<N→cZ Z (1+i)=cZ Z0 (1+i)
  par:∀j,Em N sl u c j→pZ Z j=sl+Q j
  sy:∀i,sZ Z i=sZ Z0 i
section
variable {Z0 Z:List Nat} {N sl m u c B:Nat} {Q:Nat→Nat}
theorem TW.begin {CN:List Nat} (hs:zB CN Z0 sl) (hN:N≤sl):TW Z0 Z0 N sl 0 N 0 0 (fun _=>0):=
  ⟨td.begin (fun i j a b=>hs.mY i j a Om) _,fun _ _=>rfl,fun j h=>by unfold Em at h;omega,fun _=>rfl⟩
theorem td.VJ {p S B0:Nat} {K K':Nat→Nat} (h:td N sl m p u c S B0 B K Q) (h1:∀i,i<N→K' (1+i)=K (1+i)) (h2:∀a,a<m→K' (1+sl+a)=K (1+sl+a)):td N sl m p u c S B0 B K' Q:=
  TrC (Tr.congr h (fun a ha=>h2 a ha) (fun i _ _=>rfl) (fun a _=>rfl)) h1
theorem TW.U0 (h:TW Z0 Z N sl m u c B Q) {j v:Nat} (hj:j<Z.length) (hv:v<4294967296) (h1:j=0∨1+sl+m≤j) (hN:N≤sl):TW Z0 (Z.set j (Bh (Z.getD j 0) v)) N sl m u c B Q:=by
  refine⟨h.tr.VJ (fun i hi=>?_) (fun a ha=>?_),fun i hi=>?_,fun i hi=>?_,fun i=>?_⟩
  · rw[Ej hj hv,if_neg Om]
  · rw[Ej hj hv,if_neg Om]
  · rw[Ej hj hv,if_neg Om];exact h.kl i hi
  · rw[adz hj hv];exact h.par i hi
  · rw[adA hj hv];exact h.sy i
theorem TW.next (h:TW Z0 Z N sl m u c B Q) {k1 k2 u2 c2 B2 v w:Nat} (h2:td N sl m 2 u2 c2 (cZ Z k1+cZ Z k2) B B2 (cZ Z) (fun j=>if j=k2 then m else if j=k1 then m else Q j)) (hN:N≤sl)
    (hk:∀j,Em N sl u2 c2 j→j=k1∨j=k2∨Em N sl u c j) (h3:k1<1+sl+m) (h4:k2<1+sl+m) (hl:1+sl+m<Z.length) (hv:v=cZ Z k1+cZ Z k2) (x8:v<4294967296) (hw:w=sl+m) (El:w<65536) {Z1 Z2 Z3:List Nat}
    (hZ1:Z1=Z.set (1+(sl+m)) (Bh (Z.getD (1+(sl+m)) 0) v)) (Q5:Z2=Z1.set k1 (zy (Z1.getD k1 0) w)) (Tf:Z3=Z2.set k2 (zy (Z2.getD k2 0) w)):
    TW Z0 Z3 N sl (m+1) u2 c2 B2 (fun j=>if j=k2 then m else if j=k1 then m else Q j)∧(∀j,j≠1+sl+m→cZ Z3 j=cZ Z j):=by
  have l1:Z1.length=Z.length:=by rw[hZ1,List.length_set]
  have l2:Z2.length=Z.length:=by rw[Q5,List.length_set,l1]
  have hc:∀j,cZ Z3 j=if 1+(sl+m)=j then v else cZ Z j:=fun j=>by
    rw[Tf,adB Om El,Q5,adB Om El,hZ1,Ej Om x8]
  have hp:∀j,pZ Z3 j=if k2=j then w else if k1=j then w else pZ Z j:=fun j=>by
    rw[Tf,adC Om El];by_cases e:k2=j
    · rw[if_pos e,if_pos e]
    · rw[if_neg e,if_neg e,Q5,adC Om El];by_cases e2:k1=j
      · rw[if_pos e2,if_pos e2]
      · rw[if_neg e2,if_neg e2,hZ1,adz Om x8]
  have hs:∀j,sZ Z3 j=sZ Z j:=fun j=>by
    rw[Tf,adD Om El,Q5,adD Om El,hZ1,adA Om x8]
  refine⟨⟨h2.node (fun j j1 j2=>by rw[hc,if_neg Om]) (by rw[hc,if_pos Om,hv]) hN (fun j _=>rfl),fun i hi=>?_,fun j hj=>?_,fun j=>by rw[hs];exact h.sy j⟩,fun j hj=>by rw[hc,if_neg Om]⟩
  · rw[hc,if_neg Om];exact h.kl i hi
  · rw[hp];show _=sl+(if j=k2 then m else if j=k1 then m else Q j);by_cases e:k2=j
    · rw[if_pos e,if_pos (show j=k2 from e.symm),hw]
    · rw[if_neg e,if_neg (show¬j=k2 from fun q=>e q.symm)];by_cases e2:k1=j
      · rw[if_pos e2,if_pos (show j=k1 from e2.symm),hw]
      · rw[if_neg e2,if_neg (show¬j=k1 from fun q=>e2 q.symm)];rcases hk j hj with h9|h9|h9
        · exact absurd h9.symm e2
        · exact absurd h9.symm e
        · exact h.par j h9
end
def tf (Z0 Z:List Nat):Prop:=∀j,cZ Z j=cZ Z0 j∧pZ Z j=pZ Z0 j∧sZ Z j=sZ Z0 j
theorem tf.Q4 (Z:List Nat):tf Z Z:=fun _=>⟨rfl,rfl,rfl⟩
theorem tf.B {Z0 Z:List Nat} (h:tf Z0 Z) {j n:Nat} (hj:j<Z.length) (hn:n<256):tf Z0 (Z.set j (l6 (Z.getD j 0) n)):=fun i=>by rw[adE hj hn,akC hj hn,adF hj hn];exact h i
structure Tg (Z:List Nat) (sl m k:Nat) (Q:Nat→Nat):Prop where
  le:∀a,k≤a→a<m→bZ Z (1+sl+a)+a+1≤m
  top:bZ Z (1+sl+(m-1))=0
  Pd:∀a,k≤a→a+1<m→bZ Z (1+sl+a)=bZ Z (1+sl+Q (1+sl+a))+1
structure LfD (Z:List Nat) (sl m n:Nat) (Q:Nat→Nat):Prop where
  ind:Tg Z sl m 0 Q
  leaf:∀i,i<n→bZ Z (1+i)=bZ Z (1+sl+Q (1+i))+1
section
variable {Z0 Z:List Nat} {N sl m k n u c B:Nat} {Q:Nat→Nat}
theorem Tg.begin (hj:1+sl+(m-1)<Z.length) (h1:1≤m):Tg (Z.set (1+(sl+(m-1))) (l6 (Z.getD (1+(sl+(m-1))) 0) 0)) sl m (m-1) Q:=by
  have e:bZ (Z.set (1+(sl+(m-1))) (l6 (Z.getD (1+(sl+(m-1))) 0) 0)) (1+sl+(m-1))=0:=by rw[Cb Om Od,if_pos Om]
  exact⟨fun a h2 h3=>by rw[show a=m-1 by omega,e];omega,e,fun a h2 h3=>Om⟩
theorem Tg.step (h:Tg Z sl m k Q) (hk:1≤k) (hkm:k+1≤m) (hl:1+sl+m≤Z.length) (hQ:k-1<Q (1+sl+(k-1))∧Q (1+sl+(k-1))<m) {w:Nat} (hw:w=bZ Z (1+(sl+Q (1+sl+(k-1))))+1) (El:w<256) (hQa:∀a,k≤a→a+1<m→a<Q (1+sl+a)∧Q (1+sl+a)<m):Tg (Z.set (1+(sl+(k-1))) (l6 (Z.getD (1+(sl+(k-1))) 0) w)) sl m (k-1) Q:=by
  have hb:∀j,bZ (Z.set (1+(sl+(k-1))) (l6 (Z.getD (1+(sl+(k-1))) 0) w)) j=if 1+(sl+(k-1))=j then w else bZ Z j:=fun j=>Cb Om El
  have e1:=h.le (Q (1+sl+(k-1))) Om hQ.2;rw[show 1+(sl+Q (1+sl+(k-1)))=1+sl+Q (1+sl+(k-1)) by omega] at hw;refine⟨fun a h1 h2=>?_,?_,fun a h1 h2=>?_⟩
  · rw[hb];split
    · omega
    · exact h.le a Om h2
  · rw[hb,if_neg Om];exact h.top
  · by_cases e:a=k-1
    · rw[e,hb,if_pos Om,hb,if_neg Om,hw]
    · rw[hb,if_neg Om,hb,if_neg (by have:=hQa a Om h2;omega)];exact h.Pd a Om h2
theorem LfD.step (h:LfD Z sl m n Q) (hN:N≤sl) (hn:n<N) (hl:1+sl+m≤Z.length) {w:Nat} (hw:w=bZ Z (1+(sl+Q (1+n)))+1) (El:w<256):LfD (Z.set (1+n) (l6 (Z.getD (1+n) 0) w)) sl m (n+1) Q:=by
  have hb:∀j,bZ (Z.set (1+n) (l6 (Z.getD (1+n) 0) w)) j=if 1+n=j then w else bZ Z j:=fun j=>Cb Om El
  rw[show 1+(sl+Q (1+n))=1+sl+Q (1+n) by omega] at hw;refine⟨⟨fun a h1 h2=>?_,?_,fun a h1 h2=>?_⟩,fun i hi=>?_⟩
  · rw[hb,if_neg Om];exact h.ind.le a h1 h2
  · rw[hb,if_neg Om];exact h.ind.top
  · rw[hb,if_neg Om,hb,if_neg Om];exact h.ind.Pd a h1 h2
  · rw[hb (1+sl+Q (1+i)),if_neg Om,hb];by_cases e:i=n
    · rw[e,if_pos rfl,hw]
    · rw[if_neg Om];exact h.leaf i Om
theorem VK (h:td N sl (N-1) 0 0 (N-2) 0 B B (cZ Z0) Q) (hd:LfD Z sl (N-1) N Q) (hN:2≤N∧N≤256) (sG:∀i,i<N→1≤cZ Z0 (1+i)) (hT:sm (fun i=>cZ Z0 (1+i)) N<524288):
    Pk (fun i=>bZ Z (1+i)) (bZ Z (1+(N-1))) N∧bZ Z (1+(N-1))≤40:=by
  have hm:1≤N-1:=Om;have h':Tr N (fun i=>cZ Z0 (1+i)) (N-1) 0 0 (N-1-1) 0 B B (fun a=>cZ Z0 (1+sl+a)) (fun i=>Q (1+i)) (fun a=>Q (1+sl+a)):=by
    rw[show N-1-1=N-2 by omega];exact h
  have hD:Kq N (N-1) (fun i=>Q (1+i)) (fun a=>Q (1+sl+a)) (fun a=>bZ Z (1+sl+a)) (fun i=>bZ Z (1+i)):=⟨hd.ind.top,fun a ha=>hd.ind.Pd a (Nat.zero_le _) ha,fun i hi=>hd.leaf i hi⟩;have KY:∀i j,i≤j→j<N→bZ Z (1+i)≤bZ Z (1+j):=fun i j a b=>hD.mono h' hm a b
  have adK:=Tr.root h' hm;have hI:∀a,a<N-1→bZ Z (1+sl+a)≤300:=fun a ha=>by have:=hd.ind.le a (Nat.zero_le _) ha;omega
  have hL:∀i,i<N→bZ Z (1+i)≤300:=fun i hi=>by have:=adH Z (1+i);omega
  have hk:=hD.gU h' hm hL hI;refine⟨⟨hN,KY,fun i hi=>⟨by rw[hd.leaf i hi];omega,KY i (N-1) Om Om⟩,rfl,?_⟩,?_⟩
  · have hl:=hL (N-1) Om;have e:sm (fun i=>2^(300-bZ Z (1+(N-1)))*2^(bZ Z (1+(N-1))-bZ Z (1+i))) N=2^300:=by
      rw[←hk];refine cD fun i hi=>?_
      have:=KY i (N-1) Om Om;rw[←Nat.pow_add];congr 1;omega
    rw[Ao] at e;have e2:2^300=2^(300-bZ Z (1+(N-1)))*2^bZ Z (1+(N-1)):=by rw[←Nat.pow_add];congr 1;omega
    rw[e2] at e;exact Nat.eq_of_mul_eq_mul_left (Nat.two_pow_pos _) e
  · have pA:=hD.low h' hm (i:=N-1) Om;have hc:=sG (N-1) Om;have h1:2^(bZ Z (1+(N-1))/2)≤2^(bZ Z (1+(N-1))/2)*cZ Z0 (1+(N-1)):=Nat.le_mul_of_pos_right _ hc;have h2:2^(bZ Z (1+(N-1))/2)<2^19:=by
      have:(2:Nat)^19=524288:=rfl;have h9:cZ Z0 (1+sl+(N-1-1))=sm (fun i=>cZ Z0 (1+i)) N:=adK;have h8:2^(bZ Z (1+(N-1))/2)*cZ Z0 (1+(N-1))≤cZ Z0 (1+sl+(N-1-1)):=pA;omega
    have h3:bZ Z (1+(N-1))/2<19:=by
      apply Classical.byContradiction;intro hn;have:=Nat.pow_le_pow_right (n:=2) Om (show 19≤bZ Z (1+(N-1))/2 by omega);omega
    omega
end
theorem Q7 {n:Nat} {s:Nat→Nat} (hr:∀i,i<n→s i<n) (hs:∀x,x<n→∃i,i<n∧s i=x) {i j:Nat} (hi:i<n) (hj:j<n) (e:s i=s j):i=j:=by
  have hc:∀x,∃i,x<n→i<n∧s i=x:=fun x=>by
    by_cases hx:x<n
    · obtain⟨i,h1,h2⟩:=hs x hx;exact⟨i,fun _=>⟨h1,h2⟩⟩
    · exact⟨0,fun h=>(hx h).elim⟩
  have hg:∀x,x<n→Classical.choose (hc x)<n∧s (Classical.choose (hc x))=x:=fun x hx=>Classical.choose_spec (hc x) hx
  generalize hgd:(fun x=>Classical.choose (hc x))=g at*;have U':∀x,x<n→g x<n∧s (g x)=x:=fun x hx=>by rw[←hgd];exact hg x hx
  have him:∀i,i<n→∃x,x<n∧g x=i:=fun i hi=>by
    have h1:=As (n:=n) (g:=g) (fun x hx=>(U' x hx).1) (fun x y hx hy h=>by rw[←(U' x hx).2, ←(U' y hy).2,h]) (fun z=>if z=i then 1 else 0);rw[Ar hi] at h1;obtain⟨x,hx,rT⟩:=B1 (W:=fun x=>if g x=i then 1 else 0) (n:=n) (by rw[h1];decide);refine⟨x,hx,?_⟩;apply Classical.byContradiction;intro hn;simp[hn] at rT
  obtain⟨x,hx,ex⟩:=him i hi;obtain⟨y,hy,ey⟩:=him j hj;have a:=(U' x hx).2;have b:=(U' y hy).2;rw[ex] at a;rw[ey] at b;rw[←ex, ←ey, ←a, ←b,e]
def fC (c:Nat × Nat):List Value:=[.int .u16 ((c.1:Nat):Int),.int .u8 ((c.2:Nat):Int)]
theorem kF (c:Nat × Nat):(fC c).length=2:=rfl
theorem VL (c:Nat × Nat):((fC c).all fun u=>u.oneCell')=true:=rfl
theorem F9 (n:Nat):(List.replicate n ([.int .u16 ((0:Nat):Int),.int .u8 ((0:Nat):Int)]:List Value)).flatten=rows fC (List.replicate n (0,0)):=by
  induction n with
  |zero=>rfl
  |succ n ih=>simp only[List.replicate_succ,List.flatten_cons,rows,List.flatMap_cons] at ih ⊢;rw[ih];rfl
theorem VM {N S sl M mb:Nat} (h1:N≤S) (h2:N≤sl) (h3:N≤256) (h4:2≤sl) (hb:mb=aj S∨mb=aj (sl-1)+1) (hM:mb≤M∨M=11):N≤2^M:=by
  rcases hM with hM|rfl
  · have h5:2^mb≤2^M:=Nat.pow_le_pow_right Om hM;rcases hb with rfl|rfl
    · have:=gM S;omega
    · have:=gM (sl-1);rw[Nat.pow_succ] at h5;omega
  · omega
structure fh (CN:List Nat) (T:List (Nat × Nat)) (sl R:Nat):Prop where
  zero:∀x,x<sl→CN.getD x 0=0→(T.getD x (0,0)).2=0
  some:∀x,x<sl→CN.getD x 0≠0→1≤(T.getD x (0,0)).2∧(T.getD x (0,0)).2≤R
  sum:sm (fun x=>if (T.getD x (0,0)).2=0 then 0 else 2^(R-(T.getD x (0,0)).2)) sl=2^R
  top:∃x,x<sl∧(T.getD x (0,0)).2=R
structure Hand (Z:List Nat) (T:List (Nat × Nat)) (sl k:Nat):Prop where
  len:T.length=256
  set:∀i,i<k→(T.getD (sZ Z (1+i)) (0,0)).2=bZ Z (1+i)
  zero:∀x,(∀i,i<k→sZ Z (1+i)≠x)→(T.getD x (0,0)).2=0
theorem uI {T:List (Nat × Nat)} {i j:Nat} {v:Nat × Nat} (h:i<T.length):(T.set i v).getD j (0,0)=if i=j then v else T.getD j (0,0):=by
  simp only[List.getD_eq_getElem?_getD,List.getElem?_set];split
  · rename_i e;subst e;simp[h]
  · rfl
theorem Hand.begin (Z:List Nat) (sl:Nat):Hand Z (List.replicate 256 (0,0)) sl 0:=⟨List.length_replicate,fun i h=>Om,fun x _=>by
  rw[List.getD_eq_getElem?_getD,List.getElem?_replicate];split<;>rfl⟩
section
variable {CN Z Z0:List Nat} {T:List (Nat × Nat)} {sl k N R:Nat}
theorem zB.akE (hs:zB CN Z0 sl) {i j:Nat} (hi:i<sl) (hj:j<sl) (e:sZ Z0 (1+i)=sZ Z0 (1+j)):i=j:=
  Q7 (s:=fun i=>sZ Z0 (1+i)) (fun i hi=>by obtain⟨x,h1,_,h2⟩:=hs.BY i hi;show sZ Z0 (1+i)<sl;omega) (fun x hx=>by obtain⟨i,h1,_,h2⟩:=hs.Q3 x hx;exact⟨i,h1,h2⟩) hi hj e
theorem Hand.step (h:Hand Z T sl k) (hs:zB CN Z0 sl) (hy:∀i,sZ Z i=sZ Z0 i) (hk:k<sl) (mw:sl≤256) {a:Nat}:Hand Z (T.set (sZ Z (1+k)) (a,bZ Z (1+k))) sl (k+1):=by
  have hl:=h.len;obtain⟨x,x1,_,x2⟩:=hs.BY k hk;have hx:sZ Z (1+k)<256:=adG _ _;refine⟨by simp[hl],fun i hi=>?_,fun y hy2=>?_⟩
  · rw[uI Om];by_cases e:i=k
    · rw[e,if_pos rfl]
    · rw[if_neg (fun e2=>e (by rw[hy,hy] at e2;exact(hs.akE hk Om e2).symm))];exact h.set i Om
  · rw[uI Om,if_neg (hy2 k Om)];exact h.zero y fun i hi=>hy2 i Om
theorem Hand.fin (h:Hand Z T sl N) (hs:zB CN Z0 sl) (hc:∀i,i<N→cZ Z0 (1+i)≠0) (hz:∀i,N≤i→i<sl→cZ Z0 (1+i)=0) (hy:∀i,sZ Z i=sZ Z0 i) (hN:N≤sl) (hw:Whl Z N R):fh CN T sl R:=by
  have FN:∀i,i<sl→∃x,x<sl∧sZ Z (1+i)=x∧cZ Z0 (1+i)=CN.getD x 0:=fun i hi=>by
    obtain⟨x,a,b,c⟩:=hs.BY i hi;exact⟨x,a,by rw[hy];exact c,b⟩
  have hon:∀x,x<sl→∃i,i<sl∧sZ Z (1+i)=x∧cZ Z0 (1+i)=CN.getD x 0:=fun x hx=>by
    obtain⟨i,a,b,c⟩:=hs.Q3 x hx;exact⟨i,a,by rw[hy];exact c,b⟩
  have hzero:∀x,x<sl→CN.getD x 0=0→(T.getD x (0,0)).2=0:=fun x hx h0=>h.zero x fun i hi e=>by
    obtain⟨y,a,b,c⟩:=FN i Om;rw[e] at b;subst b;exact hc i hi (by rw[c,h0])
  have KZ:∀i,i<N→(T.getD (sZ Z (1+i)) (0,0)).2=bZ Z (1+i):=h.set;refine⟨hzero,fun x hx h0=>?_,?_,?_⟩
  · obtain⟨i,a,b,c⟩:=hon x hx;have hiN:i<N:=by
      apply Classical.byContradiction;intro hn;exact h0 (by rw[←c];exact hz i Om a)
    rw[←b,KZ i hiN];exact hw.rV i hiN
  · have e1:=FU (n:=sl) (P:=fun i=>if i<N then 2^(R-bZ Z (1+i)) else 0) (Q:=fun x=>if (T.getD x (0,0)).2=0 then 0 else 2^(R-(T.getD x (0,0)).2)) (s:=fun i=>sZ Z (1+i)) (fun x hx=>by obtain⟨i,a,b,_⟩:=hon x hx;exact⟨i,a,b⟩) (fun i hi=>by
      show(if i<N then 2^(R-bZ Z (1+i)) else 0)=if (T.getD (sZ Z (1+i)) (0,0)).2=0 then 0 else 2^(R-(T.getD (sZ Z (1+i)) (0,0)).2)
      by_cases e:i<N
      · have:=hw.rV i e;rw[if_pos e,KZ i e,if_neg Om]
      · obtain⟨y,a,b,c⟩:=FN i hi;rw[if_neg e,if_pos];rw[b];exact hzero y a (by rw[←c];exact hz i Om hi))
    rw[e1, ←hw.sum];have e2:sl=N+(sl-N):=Om;rw[e2,uA];have e3:sm (fun j=>(fun i=>if i<N then 2^(R-bZ Z (1+i)) else 0) (N+j)) (sl-N)=0:=by
      have:sm (fun j=>(fun i=>if i<N then 2^(R-bZ Z (1+i)) else 0) (N+j)) (sl-N)=sm (fun _=>0) (sl-N):=cD fun j hj=>by
        show(if N+j<N then _ else 0)=0;rw[if_neg Om]
      rw[this,gV,Nat.mul_zero]
    rw[e3,Nat.add_zero];exact cD fun i hi=>by rw[if_pos hi]
  · obtain⟨i,hi,he⟩:=hw.top;obtain⟨x,a,b,c⟩:=FN i Om;exact⟨x,a,by rw[←b,KZ i hi,he]⟩
theorem fh.val (h:fh CN T sl R) {n v:Nat} (hn:n<T.length):fh CN (T.set n (v,(T.getD n (0,0)).2)) sl R:=by
  have e:∀x,((T.set n (v,(T.getD n (0,0)).2)).getD x (0,0)).2=(T.getD x (0,0)).2:=fun x=>by
    rw[uI hn];split
    · rename_i e;subst e;rfl
    · rfl
  exact⟨fun x hx h0=>by rw[e];exact h.zero x hx h0,fun x hx h0=>by rw[e];exact h.some x hx h0,by simp only[e];exact h.sum,by obtain⟨x,a,b⟩:=h.top;exact⟨x,a,by rw[e];exact b⟩⟩
theorem zB.more (hs:zB CN Z0 sl) {x:Nat} (hx:x<sl) (h0:CN.getD x 0≠0) {r:Nat} (hr:∀i,r<i→i<sl→cZ Z0 (1+i)=0):∃i,i≤r∧i<sl∧sZ Z0 (1+i)=x∧cZ Z0 (1+i)≠0:=by
  obtain⟨i,a,b,c⟩:=hs.Q3 x hx;refine⟨i,?_,a,c,by rw[b];exact h0⟩;apply Classical.byContradiction;intro hn;exact h0 (by rw[←b];exact hr i Om a)
theorem zB.pos (hs:zB CN Z0 sl) {r:Nat} (hr:r<sl) (h0:cZ Z0 (1+r)≠0):∀i,i<r+1→1≤cZ Z0 (1+i):=fun i hi=>by
  have:=hs.mY i r Om hr;omega
theorem zB.total (hs:zB CN Z0 sl):sm (fun i=>cZ Z0 (1+i)) sl=sm (mC CN) sl:=by
  refine(FU (n:=sl) (P:=fun i=>cZ Z0 (1+i)) (Q:=mC CN) (s:=fun i=>sZ Z0 (1+i)) (fun x hx=>?_) fun i hi=>?_).symm
  · obtain⟨i,a,b,c⟩:=hs.Q3 x hx;exact⟨i,a,c⟩
  · obtain⟨x,a,b,c⟩:=hs.BY i hi;show cZ Z0 (1+i)=CN.getD (sZ Z0 (1+i)) 0;rw[c,b]
end
theorem F' {W:Nat→Nat}:∀{n:Nat},(∀i,i<n→1≤W i)→n≤sm W n
  |0,_=>Nat.zero_le _
  |n+1,h=>by
    have:=F' (W:=W) (n:=n) fun i hi=>h i Om
    have:=h n Om;simp only[sm];omega
section
variable {CN Z0 Z:List Nat} {sl r m u c B:Nat} {Q:Nat→Nat}
theorem zB.back (hs:zB CN Z0 sl) {x:Nat} (hx:x<sl) (h0:CN.getD x 0≠0) (hr:∀i,r<i→i<sl→cZ Z0 (1+i)=0) (hz:cZ Z0 (1+r)=0):1≤r:=by
  obtain⟨i,a,b,c,d⟩:=hs.more hx h0 hr;apply Classical.byContradiction;intro hn;have:i=r:=Om;rw[this] at d;exact d hz
theorem zB.two (hs:zB CN Z0 sl) {x y:Nat} (hx:x<sl) (hy:y<sl) (uD:x≠y) (h0:CN.getD x 0≠0) (h1:CN.getD y 0≠0) (hr:∀i,r<i→i<sl→cZ Z0 (1+i)=0):1≤r:=by
  obtain⟨i,a,b,c,d⟩:=hs.more hx h0 hr;obtain⟨j,a',b',c',d'⟩:=hs.more hy h1 hr;apply Classical.byContradiction;intro hn;have:i=j:=Om;rw[this,c'] at c;exact uD c.symm
theorem TW.first (hs:zB CN Z0 sl) (hr:r<sl) (h1:1≤r) (hl:Z0.length=513) (mw:sl≤256) {v:Nat} (hv:v=cZ Z0 (1+r)+cZ Z0 (1+(r-1))) (x8:v<4294967296) {Z1 Z2 Z3:List Nat}
    (hZ1:Z1=Z0.set (1+sl) (Bh (Z0.getD (1+sl) 0) v)) (Q5:Z2=Z1.set (1+r) (zy (Z1.getD (1+r) 0) sl)) (Tf:Z3=Z2.set (1+(r-1)) (zy (Z2.getD (1+(r-1)) 0) sl)):
    ∃B Q,TW Z0 Z3 (r+1) sl 1 (r-1) 0 B Q:=by
  have hb:=TW.begin (N:=r+1) hs Om;have l1:=hb.tr.leaf Om Om Om (.inl rfl);have l2:=l1.leaf Om Om Om (.inl rfl);have e1:r+1=1+r:=Om;have e2:r+1-1=1+(r-1):=Om;have e3:r+1-1-1=r-1:=Om;rw[e3,e2,e1,Nat.zero_add,Nat.zero_add] at l2;rw[e1] at hb;have hn:=hb.next (k1:=1+r) (k2:=1+(r-1)) l2 Om (fun j hj=>by unfold Em at hj ⊢;omega) Om Om Om hv x8 Om Om hZ1 Q5 Tf;rw[e1];exact⟨_,_,hn.1⟩
def Pk1 (Z:List Nat) (N sl m u c B:Nat) (Q:Nat→Nat) (x u1 c1:Nat):Prop:=
  td N sl m 1 u1 c1 (cZ Z (x+1)) B (cZ Z (x+1)) (cZ Z) (fun j=>if j=x+1 then m else Q j)∧x+1<1+sl+m∧∀j,Em N sl u1 c1 j→j=x+1∨Em N sl u c j
def Pk2 (Z:List Nat) (N sl m u c B:Nat) (Q:Nat→Nat) (x y u2 c2:Nat):Prop:=
  td N sl m 2 u2 c2 (cZ Z (x+1)+cZ Z (y+1)) B (cZ Z (y+1)) (cZ Z) (fun j=>if j=y+1 then m else if j=x+1 then m else Q j)∧y+1<1+sl+m∧∀j,Em N sl u2 c2 j→j=x+1∨j=y+1∨Em N sl u c j
theorem TW.pick {N:Nat} (h:TW Z0 Z N sl m u c B Q) (hN:N≤sl) (hm:m+1<N) (hb:cZ Z 0=2147483648) (hf:∀a,m≤a→a+1<N→cZ Z (1+sl+a)=1073741824) (hK:sm (fun i=>cZ Z (1+i)) N<1073741824):
    (cZ Z u<cZ Z (1+sl+c)→1≤u∧Pk1 Z N sl m u c B Q (u-1) (u-1) c)∧(¬cZ Z u<cZ Z (1+sl+c)→c<m∧Pk1 Z N sl m u c B Q (sl+c) u (c+1)):=by
  have hn:=h.tr.num;obtain⟨p1,p2⟩:=h.tr.pick hN Om hm hb hf hK;refine⟨fun h1=>?_,fun h1=>?_⟩
  · obtain⟨a,b⟩:=p1 h1;rw[Nat.zero_add (cZ Z u)] at b;refine⟨a,?_,Om,fun j hj=>by unfold Em at hj ⊢;omega⟩;rw[show u-1+1=u by omega];exact b
  · obtain⟨a,b⟩:=p2 h1;rw[Nat.zero_add (cZ Z (1+sl+c))] at b;refine⟨a,?_,Om,fun j hj=>by unfold Em at hj ⊢;omega⟩;rw[show sl+c+1=1+sl+c by omega];exact b
theorem Pk1.pick {N x u1 c1:Nat} (h:Pk1 Z N sl m u c B Q x u1 c1) (hN:N≤sl) (hm:m+1<N) (hb:cZ Z 0=2147483648) (hf:∀a,m≤a→a+1<N→cZ Z (1+sl+a)=1073741824) (hK:sm (fun i=>cZ Z (1+i)) N<1073741824):
    (cZ Z u1<cZ Z (1+sl+c1)→1≤u1∧Pk2 Z N sl m u c B Q x (u1-1) (u1-1) c1)∧(¬cZ Z u1<cZ Z (1+sl+c1)→c1<m∧Pk2 Z N sl m u c B Q x (sl+c1) u1 (c1+1)):=by
  obtain⟨h1,h2,h3⟩:=h;have hn:=h1.num;obtain⟨p1,p2⟩:=h1.pick hN Om hm hb hf hK;refine⟨fun h4=>?_,fun h4=>?_⟩
  · obtain⟨a,b⟩:=p1 h4;refine⟨a,?_,Om,fun j hj=>?_⟩
    · rw[show u1-1+1=u1 by omega];exact b
    · have:j=u1∨Em N sl u1 c1 j:=by unfold Em at hj ⊢;omega
      rcases this with h9|h9
      · right;left;omega
      · rcases h3 j h9 with h8|h8
        · exact .inl h8
        · exact .inr (.inr h8)
  · obtain⟨a,b⟩:=p2 h4;refine⟨a,?_,Om,fun j hj=>?_⟩
    · rw[show sl+c1+1=1+sl+c1 by omega];exact b
    · have:j=sl+c1+1∨Em N sl u1 c1 j:=by unfold Em at hj ⊢;omega
      rcases this with h9|h9
      · right;left;exact h9
      · rcases h3 j h9 with h8|h8
        · exact .inl h8
        · exact .inr (.inr h8)
theorem Pk2.small {N x y u2 c2:Nat} (h:Pk2 Z N sl m u c B Q x y u2 c2):cZ Z (x+1)+cZ Z (y+1)≤sm (fun i=>cZ Z (1+i)) N:=by
  have ht:=Tr.ff h.1;have hn:=h.1.num;have h2:=l5 (W:=fun a=>cZ Z (1+sl+a)) (show c2≤m by omega);have h3:sm (fun i=>cZ Z (1+i)) u2+sm (fun a=>cZ Z (1+sl+a)) m+(cZ Z (x+1)+cZ Z (y+1))=sm (fun i=>cZ Z (1+i)) N+sm (fun a=>cZ Z (1+sl+a)) c2:=ht;omega
structure TE (Z:List Nat) (sl r B:Nat) (Q:Nat→Nat):Prop where
  tr:td (r+1) sl r 0 0 (r-1) 0 B B (cZ Z) Q
  qi:∀a,a+1<r→a<Q (1+sl+a)∧Q (1+sl+a)<r
  ql:∀i,i<r+1→Q (1+i)<r
  pi:∀a,a+1<r→pZ Z (1+sl+a)=sl+Q (1+sl+a)
  pl:∀i,i<r+1→pZ Z (1+i)=sl+Q (1+i)
theorem TW.end_ (h:TW Z0 Z (r+1) sl m u c B Q) (hm:m=r) (h1:1≤r) (hr:r<sl):TE Z sl r B Q:=by
  subst hm;obtain⟨e1,e2⟩:=Tr.fin h.tr rfl h1;have e3:c=m-1:=Om;subst e1;subst e3;refine⟨h.tr,fun a ha=>?_,fun i hi=>?_,fun a ha=>h.par _ (.inr ⟨Om,Om⟩),fun i hi=>h.par _ (.inl ⟨Om,Om⟩)⟩
  · have:=Tr.pi h.tr a Om;exact⟨this.1,this.2.2 rfl⟩
  · exact(Tr.pl h.tr i (Nat.zero_le _) hi).2 rfl
end
theorem fh.le {CN:List Nat} {T:List (Nat × Nat)} {sl R x:Nat} (h:fh CN T sl R) (hx:x<sl):(T.getD x (0,0)).2≤R:=by
  by_cases e:CN.getD x 0=0
  · rw[h.zero x hx e];exact Nat.zero_le _
  · exact(h.some x hx e).2
theorem K4 {V:List Nat} {b k v:Nat} (h:∀i,V.getD i 0≤b) (hk:k<V.length) (hv:v≤b):∀i,(V.set k v).getD i 0≤b:=fun i=>by
  rw[aH hk];split
  · exact hv
  · exact h i
theorem Ga {V:List Nat} {b k v:Nat} (h:∀i,V.getD i 0≤b) (hk:k<V.length) (hv:v≤b+1):∀i,(V.set k v).getD i 0≤b+1:=K4 (fun i=>Nat.le_succ_of_le (h i)) hk hv
theorem Hw {α:Type} {f:α→List Value} {sz:Nat} (hf:∀x,(f x).length=sz) (xs ys:List α) (h:ys.length≤xs.length):spl (rows f xs) 0 (rows f ys)=rows f (ys++xs.drop ys.length):=by
  rw[uf _ _ _ (by rw[aP hf,aP hf,Nat.zero_add];exact Nat.mul_le_mul_right _ h)];rw[uY,List.take_zero,List.nil_append,Nat.zero_add,aP hf,p5 hf]
section
variable {P:Program} {K:Kx} {Q:Exit→Act→World→Prop} {ρ:bx} {l r:List aV} {o:Oper} {x y:Operand} {t n m cap q d sz e:Nat} {k:IntKind}
theorem VN {α:Type} {f:α→List Value} {xs T:List α} {ca:Call} {q2:Option Addr} {dc sc e qs:Nat} {zs:List Value} {sg:aV} (hf:∀x,(f x).length=sz) (h1:∀x,((f x).all fun u=>u.oneCell')=true) (i:Nat) (ho:o.op=.call ca) (hc:ca.callee=.builtin .copy) (jj:evs ρ ca.args.toList=some [.slice (some ⟨sg.b,q,none⟩) n dc,.slice q2 n sc]) (oB:ca.argTypes= #[t,t]) (hP:fe P t=some (e,zs,sz,qs))
    (hs:nthS i l=some sg) (hq:q=sg.o+0) (qt:Src l r q2 (rows f (T.take n))) (hT:n≤T.length) (uP:sg.cs=rows f xs∧n≤xs.length) (hd:o.dst=some d) (uQ:Nat.blt d K.n=true):
    nN P K ρ l r o (fun ρ' l'=>ρ'=(d,.int .i64 ((min n n:Nat):Int))::ρ∧l'=setS i ⟨sg.b,sg.o,rows f (T.take n++xs.drop n),sg.sh⟩ l):=by
  have hl:(T.take n).length=n:=by rw[List.length_take];omega
  have tY:((rows f (T.take n)).all fun u=>u.oneCell')=true:=by
    rw[List.all_eq_true];intro u hu;obtain⟨a,_,ha⟩:=List.mem_flatMap.1 hu;exact List.all_eq_true.1 (h1 a) u ha
  have:=SW (K:=K) i 0 ho hc jj oB hP hs hq qt (by rw[aP hf,hl,Nat.min_self]) (by rw[uP.1,aP hf,aP hf,hl,Nat.zero_add];exact Nat.mul_le_mul_right _ uP.2) tY hd uQ;rwa [uP.1,Hw hf _ _ (by rw[hl];exact uP.2),hl] at this
theorem Th {xs:List Nat} {kn:IntKind} (ho:o.op=.index t x y) (hx:ev ρ x=some (.agg (ae kn xs).toArray)) (hy:ev ρ y=some (.int k (m:Nat))) (hu:P.underlying t=some (.array n e)) (hP:cL P e=some 1) (hb:P.underlying e=some (.int kn)) (h:m<n∧m<xs.length):bJ P ρ o (.int kn ((xs.getD m 0:Nat):Int)):=fun ac ha w=>by
  have hl:(ae kn xs)[m]? =some (.int kn ((xs[m]?.getD 0:Nat):Int)):=by simpa using af (k:=kn) h.2
  have akF:fm P e=some false:=by simp[fm,hb]
  simp[execOp,ho,cq ha hx,cq ha hy,Instr.index,asIntOf,bA hu,h.1,dj hP,part,m5 akF,hl,Sem.run_pure]
end
theorem Gb {W:Nat→Nat} {a n:Nat} (h:a≤n) (hz:∀x,a≤x→x<n→W x=0):sm W n=sm W a:=by
  have e:n=a+(n-a):=Om;rw[e,uA];have:sm (fun j=>W (a+j)) (n-a)=sm (fun _=>0) (n-a):=cD fun j hj=>hz _ Om Om
  rw[this,gV,Nat.mul_zero,Nat.add_zero]
theorem AK {W:Nat→Nat} {i j:Nat} (h:i<j):∀{n:Nat},j<n→W i+W j≤sm W n
  |0,h1=>by omega
  |n+1,h1=>by
    simp only[sm];by_cases e:j=n
    · subst e;have:=pI (W:=W) h;omega
    · have:=AK (W:=W) h (n:=n) Om;omega
theorem pL {W:Nat→Nat} {i j n:Nat} (h:i≠j) (hi:i<n) (hj:j<n):W i+W j≤sm W n:=by
  rcases Nat.lt_or_gt_of_ne h with h1|h1
  · exact AK h1 hj
  · have:=AK (W:=W) h1 hi;omega
theorem K5 {W:Nat→Nat} {a b n z:Nat} (w8:a≠b) (ha:a<n) (hb:b<n) (h1:W a≠0) (h2:W b≠0) (hz:z<n):W z+1≤sm W n:=by
  by_cases e:z=a
  · have:=pL (W:=W) w8 ha hb;rw[e];omega
  · have:=pL (W:=W) e hz ha;omega
structure xj (CN:List Nat) (i ff mx sy:Nat):Prop where
  K6:ff=sm (mC CN) i
  mb:∀x,x<i→CN.getD x 0≤mx
  me:mx=0∨∃x,x<i∧CN.getD x 0=mx
  sl:sy≤i
  sz:∀x,sy≤x→x<i→CN.getD x 0=0
  se:sy=0∨CN.getD (sy-1) 0≠0
section
variable {CN C2:List Nat} {i ff mx sy sh nt nm:Nat}
theorem xj.begin:xj CN 0 0 0 0:=⟨rfl,fun x h=>Om,.inl rfl,Nat.le_refl _,fun x h1 h2=>Om,.inl rfl⟩
theorem xj.step (h:xj CN i ff mx sy) {mx' sy':Nat} (hm:(mx<CN.getD i 0∧mx'=CN.getD i 0)∨(CN.getD i 0≤mx∧mx'=mx)) (hs:(CN.getD i 0≠0∧sy'=i+1)∨(CN.getD i 0=0∧sy'=sy)):xj CN (i+1) (ff+CN.getD i 0) mx' sy':=by
  have h1:=h.sl;refine⟨by rw[h.K6];rfl,fun x hx=>?_,?_,Om,fun x h2 h3=>?_,?_⟩
  · by_cases e:x=i
    · rw[e];omega
    · have:=h.mb x Om;omega
  · rcases hm with ⟨a,b⟩|⟨a,b⟩
    · exact .inr ⟨i,Om,b.symm⟩
    · rcases h.me with c|⟨x,c,d⟩
      · exact .inl Om
      · exact .inr ⟨x,Om,Om⟩
  · by_cases e:x=i
    · rw[e];omega
    · exact h.sz x Om Om
  · rcases hs with ⟨a,b⟩|⟨a,b⟩
    · right;rw[b,Nat.add_sub_cancel];exact a
    · rw[b];exact h.se
theorem xj.below (h:xj CN 256 ff mx sy) {a b:Nat} (w8:a≠b) (ha:a<256) (hb:b<256) (h1:CN.getD a 0≠0) (h2:CN.getD b 0≠0):mx+1≤ff∧2≤sy∧a<sy∧b<sy∧2≤ff:=by
  have ea:a<sy:=by
    apply Classical.byContradiction;intro hn;exact h1 (h.sz a Om ha)
  have eb:b<sy:=by
    apply Classical.byContradiction;intro hn;exact h2 (h.sz b Om hb)
  have hp:=pL (W:=mC CN) w8 ha hb;rw[←h.K6] at hp;have e1:mC CN a=CN.getD a 0:=rfl;have e2:mC CN b=CN.getD b 0:=rfl;refine⟨?_,Om,ea,eb,Om⟩;rcases h.me with c|⟨x,c,d⟩
  · omega
  · have:=K5 (W:=mC CN) w8 ha hb h1 h2 c;rw[←h.K6] at this;have e3:mC CN x=CN.getD x 0:=rfl;omega
def scl (sh c:Nat):Nat:=if c=0 then 0 else (c+(2^sh-1))/2^sh
theorem Gc {c:Nat} (h:c≠0):1≤(c+(2^sh-1))/2^sh:=by
  have:=Nat.two_pow_pos sh;exact(Nat.le_div_iff_mul_le this).2 Om
theorem VO {c:Nat}:(c+(2^sh-1))/2^sh*2^sh≤c+2^sh:=by
  have:=Nat.two_pow_pos sh;have:=Nat.div_mul_le_self (c+(2^sh-1)) (2^sh);omega
theorem Gd {c:Nat} (h:c≠0):(c+(2^sh-1))/2^sh≤c:=by
  have hp:=Nat.two_pow_pos sh;rw[←Nat.lt_succ_iff,Nat.div_lt_iff_lt_mul hp,Nat.succ_mul];have:c*1≤c*2^sh:=Nat.mul_le_mul_left _ hp;omega
structure Iq (CN C2:List Nat) (i sh nt nm:Nat):Prop where
  len:C2.length=256
  lo:∀x,x<i→C2.getD x 0=scl sh (CN.getD x 0)
  hi:∀x,i≤x→C2.getD x 0=CN.getD x 0
  nts:nt=sm (mC C2) i
  nb:nt*2^sh≤sm (mC CN) i+i*2^sh
  mb:∀x,x<i→C2.getD x 0≤nm
  me:nm=0∨∃x,x<i∧C2.getD x 0=nm
theorem Iq.begin (h:CN.length=256):Iq CN CN 0 sh 0 0:=⟨h,fun x h=>Om,fun _ _=>rfl,rfl,by simp[sm],fun x h=>Om,.inl rfl⟩
theorem Iq.zero (h:Iq CN C2 i sh nt nm) (h0:CN.getD i 0=0):Iq CN C2 (i+1) sh nt nm:=by
  have e:=h.hi i (Nat.le_refl _);rw[h0] at e;refine⟨h.len,fun x hx=>?_,fun x hx=>h.hi x Om,?_,?_,fun x hx=>?_,?_⟩
  · by_cases e2:x=i
    · rw[e2,e,h0];rfl
    · exact h.lo x Om
  · simp only[sm];rw[←h.nts];show nt=nt+C2.getD i 0;omega
  · simp only[sm];have:=h.nb;have:=Nat.two_pow_pos sh;rw[Nat.succ_mul];show _≤_+CN.getD i 0+_;omega
  · by_cases e2:x=i
    · rw[e2,e];exact Nat.zero_le _
    · exact h.mb x Om
  · rcases h.me with c|⟨x,c,d⟩
    · exact .inl c
    · exact .inr ⟨x,Om,d⟩
theorem Iq.step (h:Iq CN C2 i sh nt nm) (hi:i<256) (h0:CN.getD i 0≠0) {v nm':Nat} (hv:v=(CN.getD i 0+(2^sh-1))/2^sh) (hm:(nm<v∧nm'=v)∨(v≤nm∧nm'=nm)):Iq CN (C2.set i v) (i+1) sh (nt+v) nm':=by
  have hl:=h.len;have hg:∀x,(C2.set i v).getD x 0=if i=x then v else C2.getD x 0:=fun x=>aH Om
  have e1:sm (mC (C2.set i v)) (i+1)=nt+v:=by
    simp only[sm];have:sm (mC (C2.set i v)) i=sm (mC C2) i:=cD fun j hj=>by show(C2.set i v).getD j 0=_;rw[hg,if_neg Om];rfl
    rw[this, ←h.nts];show nt+(C2.set i v).getD i 0=_;rw[hg,if_pos rfl]
  refine⟨by simp[hl],fun x hx=>?_,fun x hx=>?_,e1.symm,?_,fun x hx=>?_,?_⟩
  · rw[hg];by_cases e2:i=x
    · subst e2;rw[if_pos rfl,scl,if_neg h0,hv]
    · rw[if_neg e2];exact h.lo x Om
  · rw[hg,if_neg Om];exact h.hi x Om
  · simp only[sm];have h1:=h.nb;have h2:=VO (sh:=sh) (c:=CN.getD i 0);rw[←hv] at h2;rw[Nat.add_mul,Nat.succ_mul];show _≤_+CN.getD i 0+_;omega
  · rw[hg];split
    · omega
    · have:=h.mb x Om;omega
  · rcases hm with ⟨a,b⟩|⟨a,b⟩
    · exact .inr ⟨i,Om,by rw[hg,if_pos rfl,b]⟩
    · rcases h.me with c|⟨x,c,d⟩
      · exact .inl Om
      · exact .inr ⟨x,Om,by rw[hg,if_neg Om,d,b]⟩
end
structure xk (CN C2:List Nat) (S mx:Nat):Prop where
  len:C2.length=256
  Ss:S=sm (mC C2) 256
  lt:S<524288
  le:∀x,C2.getD x 0≤262144
  z:∀x,C2.getD x 0=0↔CN.getD x 0=0
  me:mx=0∨∃x,x<256∧C2.getD x 0=mx
  mb:∀x,x<256→C2.getD x 0≤mx
theorem xj.ok {CN:List Nat} {ff mx sy:Nat} (h:xj CN 256 ff mx sy) (hl:CN.length=256) (hb:∀x,CN.getD x 0≤262144) (ht:ff≤262143):xk CN CN ff mx:=⟨hl,h.K6,Om,hb,fun _=>Iff.rfl,h.me,h.mb⟩
theorem Iq.ok {CN C2:List Nat} {sh nt nm ff:Nat} (h:Iq CN C2 256 sh nt nm) (hb:∀x,CN.getD x 0≤262144) (ht:ff=sm (mC CN) 256) (hs:ff/2^sh≤262143):xk CN C2 nt nm:=by
  have hp:=Nat.two_pow_pos sh;have va:∀x,C2.getD x 0=scl sh (CN.getD x 0)∨(256≤x∧C2.getD x 0=CN.getD x 0):=fun x=>by
    by_cases e:x<256
    · exact .inl (h.lo x e)
    · exact .inr ⟨Om,h.hi x Om⟩
  refine⟨h.len,h.nts,?_,fun x=>?_,fun x=>?_,h.me,h.mb⟩
  · have h1:=h.nb;rw[←ht] at h1;have h2:ff<262144*2^sh:=(Nat.div_lt_iff_lt_mul hp).1 Om;have h3:nt*2^sh<262400*2^sh:=Om;have:=Nat.lt_of_mul_lt_mul_right h3;omega
  · have hx:=hb x;rcases va x with e|⟨_,e⟩
    · rw[e,scl];split
      · omega
      · rename_i h0;have:=Gd (sh:=sh) h0;omega
    · rw[e];exact hx
  · rcases va x with e|⟨_,e⟩
    · rw[e,scl];split
      · rename_i h0;exact⟨fun _=>h0,fun _=>rfl⟩
      · rename_i h0;have:=Gc (sh:=sh) h0;exact⟨fun q=>Om,fun q=>absurd q h0⟩
    · rw[e]
theorem xk.below {CN C2:List Nat} {S mx a b:Nat} (h:xk CN C2 S mx) (w8:a≠b) (ha:a<256) (hb:b<256) (h1:CN.getD a 0≠0) (h2:CN.getD b 0≠0):mx+1≤S∧2≤S∧C2.getD a 0≠0∧C2.getD b 0≠0:=by
  have e1:C2.getD a 0≠0:=fun e=>h1 ((h.z a).1 e)
  have e2:C2.getD b 0≠0:=fun e=>h2 ((h.z b).1 e)
  have hp:=pL (W:=mC C2) w8 ha hb;rw[←h.Ss] at hp;have f1:mC C2 a=C2.getD a 0:=rfl;have f2:mC C2 b=C2.getD b 0:=rfl;refine⟨?_,Om,e1,e2⟩;rcases h.me with c|⟨x,c,d⟩
  · omega
  · have:=K5 (W:=mC C2) w8 ha hb e1 e2 c;rw[←h.Ss] at this;have e3:mC C2 x=C2.getD x 0:=rfl;omega
theorem xk.sum {CN C2:List Nat} {S mx sy:Nat} (h:xk CN C2 S mx) (h1:sy≤256) (hz:∀x,sy≤x→x<256→CN.getD x 0=0):sm (mC C2) sy=S:=by
  rw[h.Ss];exact(Gb h1 fun x a b=>(h.z x).2 (hz x a b)).symm
theorem fh.of {CN C2:List Nat} {T:List (Nat × Nat)} {sl R:Nat} (h:fh C2 T sl R) (hz:∀x,C2.getD x 0=0↔CN.getD x 0=0):fh CN T sl R:=
  ⟨fun x hx h0=>h.zero x hx ((hz x).2 h0),fun x hx h0=>h.some x hx fun e=>h0 ((hz x).1 e),h.sum,h.top⟩
theorem fh.copy {CN:List Nat} {T T2:List (Nat × Nat)} {sl R:Nat} (h:fh CN T sl R) (he:∀x,x<sl→T2.getD x (0,0)=T.getD x (0,0)):fh CN T2 sl R:=
  ⟨fun x hx h0=>by rw[he x hx];exact h.zero x hx h0,fun x hx h0=>by rw[he x hx];exact h.some x hx h0,by rw[←h.sum];exact cD fun x hx=>by rw[he x hx],by obtain⟨x,a,b⟩:=h.top;exact⟨x,a,by rw[he x a];exact b⟩⟩
theorem Cf {ff sh:Nat} (h:ff≤67108864) (h1:262143<ff/2^sh):sh≤8:=by
  apply Classical.byContradiction;intro hn;have h2:2^9≤2^sh:=Nat.pow_le_pow_right Om Om;have h3:ff/2^sh≤ff/2^9:=Nat.div_le_div_left h2 Od;omega
theorem K7 {T:List (Nat × Nat)} {n x:Nat} {Z:List (Nat × Nat)} (hx:x<n) (hn:n≤T.length):(T.take n++Z).getD x (0,0)=T.getD x (0,0):=by
  simp only[List.getD_eq_getElem?_getD];rw[List.getElem?_append_left (by rw[List.length_take];omega),List.getElem?_take,if_pos hx]
theorem En {xs:List Nat} {i n:Nat} (h:i<n):(xs.take n).getD i 0=xs.getD i 0:=by simp[List.getD_eq_getElem?_getD,List.getElem?_take,h]
theorem Cg:∀xs:List Nat,gU xs=sm (fun i=>if xs.getD i 0=0 then 0 else 2^(11-xs.getD i 0)) xs.length
  |[]=>rfl
  |x::xs=>by
    rw[List.length_cons,l4,gU,Cg xs]
    rfl
theorem xm:∀xs:List Nat,nzc xs=sm (fun i=>if xs.getD i 0=0 then 0 else 1) xs.length
  |[]=>rfl
  |x::xs=>by
    rw[List.length_cons,l4,nzc,xm xs]
    rfl
def nr (T:List (Nat × Nat)) (sl:Nat):List Nat:=(List.range 256).map fun x=>if x<sl then (T.getD x (0,0)).2 else 0
theorem jX {T:List (Nat × Nat)} {sl:Nat}:(nr T sl).length=256:=by simp[nr]
theorem iN {T:List (Nat × Nat)} {sl:Nat} (h:sl≤256) (x:Nat):(nr T sl).getD x 0=if x<sl then (T.getD x (0,0)).2 else 0:=by
  by_cases hx:x<256
  · simp[nr,List.getD_eq_getElem?_getD,List.getElem?_map,List.getElem?_range hx]
  · rw[if_neg Om,List.getD_eq_getElem?_getD,List.getElem?_eq_none (by rw[jX];omega)];rfl
def yz (T:List (Nat × Nat)) (R x:Nat):Nat:=sJ R (T.getD x (0,0)).2
section
variable {CN:List Nat} {T:List (Nat × Nat)} {sl R:Nat}
theorem fh.Ti (h:fh CN T sl R) (mw:sl≤256):ft (nr T sl) R:=fun x hx=>by
  obtain⟨i,hi,e⟩:=List.mem_iff_getElem.1 hx;have e2:=iN (T:=T) mw i;rw[List.getD_eq_getElem?_getD,List.getElem?_eq_getElem hi,Option.getD_some,e] at e2;rw[e2];split
  · rename_i h2;exact h.le h2
  · omega
theorem fh.whole (h:fh CN T sl R) (mw:sl≤256) (hR:R≤11) {a b:Nat} (w8:a≠b) (ha:a<sl) (hb:b<sl) (Im:CN.getD a 0≠0) (Pm:CN.getD b 0≠0):iE (nr T sl):=by
  refine⟨by rw[jX];exact Nat.le_refl _,fun x hx=>Nat.le_trans (h.Ti mw x hx) hR,?_,?_⟩
  · rw[Cg,jX,Gb (a:=sl) mw fun x h1 h2=>if_pos (by rw[iN mw,if_neg Om])];have e:sm (fun i=>if (nr T sl).getD i 0=0 then 0 else 2^(11-(nr T sl).getD i 0)) sl=sm (fun x=>2^(11-R)*(if (T.getD x (0,0)).2=0 then 0 else 2^(R-(T.getD x (0,0)).2))) sl:=cD fun x hx=>by
      have hl:=h.le hx;rw[iN mw,if_pos hx];split
      · rw[Nat.mul_zero]
      · rw[←Nat.pow_add,show 11-R+(R-(T.getD x (0,0)).2)=11-(T.getD x (0,0)).2 by omega]
    rw[e,Ao,h.sum, ←Nat.pow_add,show 11-R+R=11 by omega]
  · rw[xm,jX];have h1:=h.some a ha Im;have h2:=h.some b hb Pm;have:=pL (W:=fun i=>if (nr T sl).getD i 0=0 then 0 else 1) (n:=256) w8 Om Om;simp only[iN mw,if_pos ha,if_pos hb] at this;rw[if_neg Om,if_neg Om] at this;simp only[iN mw] at this ⊢;omega
theorem fh.hw (h:fh CN T sl R) (mw:1≤sl∧sl≤256) (hl:CN.getD (sl-1) 0≠0):HW (nr T sl) R (sl-1):=by
  refine⟨h.Ti mw.2,?_,by rw[jX];omega,?_,fun p hp=>?_⟩
  · obtain⟨x,h1,h2⟩:=h.top;exact⟨x,by rw[jX];omega,by rw[iN mw.2,if_pos h1,h2]⟩
  · have:=(h.some (sl-1) Om hl).1;rw[iN mw.2,if_pos Om];omega
  · rw[iN mw.2,if_neg Om]
theorem fh.has (h:fh CN T sl R) (mw:sl≤256) {x:Nat} (hx:x<sl) (h0:CN.getD x 0≠0):1≤(nr T sl).getD x 0∧(nr T sl).getD x 0≤R:=by
  rw[iN mw,if_pos hx];exact h.some x hx h0
theorem K8 {X:List Nat} {la:Nat} (mw:sl≤256) (hla:la+1=sl) (hX:la≤X.length) (h:∀x,x<la→X.getD x 0=yz T R x):cH (nr T sl) R la=X.take la:=by
  have h1:=kA (ls:=nr T sl) (L:=R) (last:=la) (by rw[jX];omega);refine pJ (by rw[h1,List.length_take];omega) fun i hi=>?_
  rw[h1] at hi;rw[yq (by rw[jX];omega) hi,iN mw,if_pos Om,En hi,h i hi]
  rfl
theorem AL (x:Nat):yz T R x≤R:=by unfold yz sJ;split<;>omega
end
structure Dd (W:Nat→Nat) (H X:List Nat) (i:Nat):Prop where
  len:H.length=256
  get:∀v,H.getD v 0=sm (fun x=>if W x=v then 1 else 0) i
  xl:X.length=256
  xb:Bytes X
  xe:∀x,x<i→X.getD x 0=W x
theorem K9 {W:Nat→Nat} {v:Nat}:∀{i:Nat},sm (fun x=>if W x=v then 1 else 0) i≤i
  |0=>Nat.le_refl _
  |i+1=>by
    have:=K9 (W:=W) (v:=v) (i:=i);simp only[sm];split<;>omega
section
variable {W:Nat→Nat} {H X:List Nat} {i:Nat}
theorem Dd.begin (hx:X.length=256) (hb:Bytes X):Dd W (List.replicate 256 0) X 0:=⟨List.length_replicate,fun v=>by
  rw[List.getD_eq_getElem?_getD,List.getElem?_replicate];split<;>rfl,hx,hb,fun x h=>Om⟩
theorem Dd.step (h:Dd W H X i) (hi:i<256) (hw:W i<256):Dd W (H.set (W i) (H.getD (W i) 0+1)) (X.set i (W i)) (i+1):=by
  have hl:=h.len;have hx:=h.xl;refine⟨by simp[hl],fun v=>?_,by simp[hx],fun x Dc=>?_,fun x Dc=>?_⟩
  · rw[aH Om];simp only[sm];split
    · rename_i e;subst e;rw[h.get]
    · rw[h.get];rfl
  · rcases List.mem_or_eq_of_mem_set Dc with a|a
    · exact h.xb x a
    · omega
  · rw[aH Om];split
    · rename_i e;rw[e]
    · exact h.xe x Om
theorem Dd.le (h:Dd W H X i) (v:Nat):H.getD v 0≤i:=by rw[h.get];exact K9
theorem Dd.ge (h:Dd W H X i) {x:Nat} (hx:x<i):1≤H.getD (W x) 0:=by
  rw[h.get];have:=pI (W:=fun y=>if W y=W x then 1 else 0) hx;simp only[if_true] at this;exact this
theorem Dd.ex (h:Dd W H X i) {v:Nat} (hv:H.getD v 0≠0):∃x,x<i∧W x=v:=by
  rw[h.get] at hv;obtain⟨x,h1,h2⟩:=B1 hv;exact⟨x,h1,Classical.byContradiction fun e=>h2 (if_neg e)⟩
theorem Ch {n:Nat}:∀{i:Nat},(∀x,x<i→W x<n)→sm (fun v=>sm (fun x=>if W x=v then 1 else 0) i) n=i
  |0,_=>by
    have:=gV (k:=0) (n:=n);rw[Nat.mul_zero] at this;exact this
  |i+1,h=>by
    have h1:=Ch (n:=n) (i:=i) fun x hx=>h x Om
    have h2:=Ar (v:=W i) (n:=n) (h i Om);have e:sm (fun v=>sm (fun x=>if W x=v then 1 else 0) (i+1)) n=sm (fun v=>sm (fun x=>if W x=v then 1 else 0) i+(if v=W i then 1 else 0)) n:=cD fun v _=>by
      simp only[sm];by_cases e:v=W i
      · rw[if_pos e,if_pos e.symm]
      · rw[if_neg e,if_neg fun h=>e h.symm]
    rw[e,An,h1,h2]
theorem Dd.sum (h:Dd W H X i) {n:Nat} (hw:∀x,x<i→W x<n):sm (mC H) n=i:=by
  rw[←Ch (W:=W) (n:=n) hw];exact cD fun v _=>h.get v
end
structure Ir (H:List Nat) (i mx mc:Nat):Prop where
  mi:mx≤i
  mb:∀j,j<i→H.getD j 0≤mc
  me:mc=0∨∃j,H.getD j 0=mc
  z:∀j,mx<j→j<i→H.getD j 0=0
  nz:(mx=0∧∀j,j<i→H.getD j 0=0)∨(mx<i∧H.getD mx 0≠0)
section
variable {W:Nat→Nat} {H X:List Nat} {i mx mc la:Nat}
theorem Ir.begin:Ir H 0 0 0:=⟨Nat.le_refl _,fun j h=>Om,.inl rfl,fun j _ h=>Om,.inl ⟨rfl,fun j h=>Om⟩⟩
theorem Ir.zero (h:Ir H i mx mc) (h0:H.getD i 0=0):Ir H (i+1) mx mc:=by
  have hm:=h.mi;refine⟨Om,fun j hj=>?_,h.me,fun j h1 h2=>?_,?_⟩
  · by_cases e:j=i
    · rw[e,h0];exact Nat.zero_le _
    · exact h.mb j Om
  · by_cases e:j=i
    · rw[e,h0]
    · exact h.z j h1 Om
  · rcases h.nz with ⟨a,b⟩|⟨a,b⟩
    · refine .inl ⟨a,fun j hj=>?_⟩;by_cases e:j=i
      · rw[e,h0]
      · exact b j Om
    · exact .inr ⟨Om,b⟩
theorem Ir.step (h:Ir H i mx mc) (h0:H.getD i 0≠0) {mc':Nat} (hm:(mc<H.getD i 0∧mc'=H.getD i 0)∨(H.getD i 0≤mc∧mc'=mc)):Ir H (i+1) i mc':=by
  refine⟨Om,fun j hj=>?_,?_,fun j h1 h2=>Om,.inr ⟨Om,h0⟩⟩
  · by_cases e:j=i
    · rw[e];omega
    · have:=h.mb j Om;omega
  · rcases hm with ⟨a,b⟩|⟨a,b⟩
    · exact .inr ⟨i,b.symm⟩
    · rw[b];exact h.me
theorem Ir.fin (h:Ir H 16 mx mc) (hs:Dd W H X la) (hw:∀x,W x≤11) (hla:1≤la):
    (1≤mc∧mc≤la)∧mx≤11∧sm (mC H) (mx+1)=la∧(∀j,H.getD j 0≤mc)∧H.getD mx 0≠0∧(∀s ∈ X.take la,s<mx+1∧H.getD s 0≠0):=by
  have g0:=hs.ge (x:=0) hla;have Pn:=hw 0;have hb:=h.mb (W 0) Om;have Tj:mx<16∧H.getD mx 0≠0:=by
    rcases h.nz with ⟨a,b⟩|h9
    · have:=b (W 0) Om;omega
    · exact h9
  have hz:∀v,v>11→H.getD v 0=0:=fun v hv=>Classical.byContradiction fun e=>by
    obtain⟨x,_,h2⟩:=hs.ex e;have:=hw x;omega
  have ve:mx≤11:=Classical.byContradiction fun e=>Tj.2 (hz mx Om)
  have hwm:∀x,x<la→W x<mx+1:=fun x hx=>Classical.byContradiction fun e=>by
    have a:=hs.ge hx;have b:=h.z (W x) Om (by have:=hw x;omega);omega
  refine⟨⟨Om,?_⟩,ve,hs.sum hwm,fun j=>?_,Tj.2,fun s Dp=>?_⟩
  · rcases h.me with e|⟨j,e⟩
    · omega
    · rw[←e];exact hs.le j
  · by_cases e:j<16
    · exact h.mb j e
    · rw[hz j Om];exact Nat.zero_le _
  · have hxl:=hs.xl;obtain⟨k,hk,e⟩:=List.mem_iff_getElem.1 Dp;have yl:k<la:=by rw[List.length_take] at hk;omega
    have e2:s=W k:=by
      rw[←hs.xe k yl, ←e];rw[List.getElem_take,List.getD_eq_getElem?_getD,List.getElem?_eq_getElem (by rw[List.length_take] at hk;omega)]
      rfl
    rw[e2];exact⟨hwm k yl,by have:=hs.ge yl;omega⟩
end
theorem Ge:∀(xs:List Nat) (a b:Nat),xs.length%2=0→nib (xs++[a,b])=nib xs++[a*16+b]
  |[],a,b,_=>rfl
  |[x],a,b,h=>by simp at h
  |x::y::r,a,b,h=>by
    simp only[List.cons_append,nib];rw[Ge r a b (by simp only[List.length_cons] at h;omega)]
theorem Gf:∀(xs:List Nat),xs.length%2=1→nib (xs++[0])=nib xs
  |[],h=>by simp at h
  |[x],h=>by simp[nib]
  |x::y::r,h=>by
    simp only[List.cons_append,nib];rw[Gf r (by simp only[List.length_cons] at h;omega)]
theorem xn {W P:List Nat} {i n:Nat} (hP:P=[n]++nib (W.take i)) (hi:i+1<W.length) (h:i%2=0):P++[W.getD i 0*16+W.getD (i+1) 0]=[n]++nib (W.take (i+2)):=by
  rw[cP (i:=i+1) hi,cP (i:=i) Om,List.append_assoc];show _=[n]++nib (W.take i++[W.getD i 0,W.getD (i+1) 0]);rw[Ge _ _ _ (by rw[List.length_take];omega),hP,List.append_assoc]
theorem La {W P:List Nat} {i n la:Nat} (hP:P=[n]++nib (W.take i)) (hi:la≤i∧i≤la+1) (h:i%2=0) (hl:la<W.length) (h0:W.getD la 0=0):P=[n]++nib (W.take la):=by
  rcases Nat.lt_or_eq_of_le hi.1 with h1|h1
  · have e:i=la+1:=Om;rw[hP,e,cP hl,h0,Gf _ (by rw[List.length_take];omega)]
  · rw[hP,h1]
structure Po (BW:List Nat) (R n:Nat):Prop where
  len:BW.length=12
  get:∀x,1≤x→x<n→BW.getD x 0=R+1-x
  z:BW.getD 0 0=0
theorem Po.begin {R:Nat}:Po (List.replicate 12 0) R 1:=⟨List.length_replicate,fun x h1 h2=>Om,rfl⟩
theorem Po.step {BW:List Nat} {R n:Nat} (h:Po BW R n) (h1:1≤n) (hn:n<12):Po (BW.set n (R+1-n)) R (n+1):=by
  have hl:=h.len;refine⟨by simp[hl],fun x a b=>?_,?_⟩
  · rw[aH Om];split
    · rename_i e;rw[e]
    · exact h.get x a Om
  · rw[aH Om,if_neg Om];exact h.z
theorem Po.w {BW:List Nat} {R n x:Nat} (h:Po BW R n) (hn:n=R+1) (hx:x≤R):BW.getD x 0=sJ R x:=by
  unfold sJ;split
  · rename_i e;rw[e];exact h.z
  · exact h.get x Om Om
theorem Hx {X:List Nat} {la v:Nat}:(X.set la v).take la=X.take la:=by rw[List.take_set,List.set_eq_of_length_le (by rw[List.length_take];omega)]
theorem Lb {n i:Nat}:(List.replicate n 0).set i 0=List.replicate n 0:=by
  refine pJ Oi fun j hj=>?_
  by_cases h:i<n
  · rw[aH Oz];split
    · rename_i e;rw[←e,List.getD_eq_getElem?_getD,List.getElem?_replicate];split<;>rfl
    · rfl
  · rw[List.set_eq_of_length_le Oz]
theorem Lc {x:Nat} (h:x<128):128|||x=127+(x+1):=by
  have:=Nat.two_pow_add_eq_or_of_lt (i:=7) (b:=x) h 1;rw[show(2:Nat)^7*1=128 by decide] at this;omega
theorem w15 {BW:List Nat} {T:List (Nat × Nat)} {R x:Nat} (h:Po BW R (R+1)) (hR:R≤11) (hx:(T.getD x (0,0)).2≤R):BW.getD (T.getD x (0,0)).2 0%16=yz T R x:=by
  rw[h.w rfl hx];have:=AL (T:=T) (R:=R) x;unfold yz at this;exact Nat.mod_eq_of_lt Om
theorem akG {T:List (Nat × Nat)} {X Y:List Nat} {sl R:Nat} {ok:Bool} (hk:ok=true) (h:ok=true→∃L P,gl L P (X.take (sl-1)) Y∧2≤Y.length∧(5≤sl-1→L=5)) (mw:2≤sl∧sl≤256) (hX:X.length=256) (hW:∀x,x<sl-1→X.getD x 0=yz T R x) (hl:Y.length<sl/2):ko (cH (nr T sl) R (sl-1)) ([Y.length]++Y):=by
  obtain⟨L,P,h1,h2,h3⟩:=h hk;have e:=h3 Om;subst e;rw[K8 mw.2 Om Om hW];exact .inr ⟨P,Y,h1,Om,rfl⟩
theorem VP {T:List (Nat × Nat)} {X P:List Nat} {sl R n:Nat} (hP:P=[127+(sl-1)]++nib ((X.set (sl-1) 0).take n)) (hn:sl-1≤n∧n≤sl-1+1) (h2:n%2=0) (mw:2≤sl∧sl≤129) (hX:X.length=256) (hW:∀x,x<sl-1→X.getD x 0=yz T R x):ko (cH (nr T sl) R (sl-1)) P:=by
  have h:=La hP hn h2 Oz (by rw[aH Om,if_pos rfl]);rw[Hx] at h;rw[K8 Om Om Om hW];refine .inl ⟨by rw[List.length_take];omega,?_⟩;rw[h,List.length_take,Nat.min_eq_left Om]
theorem Dd.x3 {T:List (Nat × Nat)} {R la:Nat} {H X:List Nat} (h:Dd (yz T R) H X la) (hR:R≤11) (hl:la<256):∀x,x≤la→(X.set la 0).getD x 0≤11:=fun x hx=>by
  rw[aH (by rw[h.xl];omega)];split
  · omega
  · rw[h.xe x Om];exact Nat.le_trans (AL x) hR
structure xp (CN:List Nat) (ls:List Nat) (R la:Nat) (ys:List Nat):Prop where
  len:ls.length=256
  hw:HW ls R la
  wh:iE ls
  R11:R≤11
  has:∀x,x<256→CN.getD x 0≠0→1≤ls.getD x 0
  tw:ko (cH ls R la) ys
theorem ko.bytes {ws ys:List Nat} (h:ko ws ys) (hw:ft ws 15) (h1:1≤ws.length):Bytes ys:=by
  rcases h with ⟨a,b⟩|⟨cs,b,a,c,d⟩
  · rw[b];intro x hx;rcases List.mem_append.1 hx with e|e
    · rw[List.mem_singleton] at e;omega
    · exact zd ws hw x e
  · rw[d];intro x hx;rcases List.mem_append.1 hx with e|e
    · rw[List.mem_singleton] at e;omega
    · exact a.bytes x e
theorem ko.size {ws ys:List Nat} (h:ko ws ys):ys.length≤128:=by
  rcases h with ⟨a,b⟩|⟨cs,b,a,c,d⟩
  · rw[b,List.length_append,ru];simp;omega
  · rw[d,List.length_append];simp;omega
section
variable {CN ls ys T:List Nat} {R la:Nat}
theorem xp.bytes (h:xp CN ls R la ys):Bytes ys:=by
  have hl:=h.hw.lt;have h1:=h.hw.B4 h.wh;refine h.tw.bytes (fun x hx=>Nat.le_trans ((sK:ft (cH ls R la) R) x hx) (by have:=h.R11;omega)) ?_;rw[kA Om];exact h1
end
theorem fh.tab {CN:List Nat} {T:List (Nat × Nat)} {sl R:Nat} {ys:List Nat} (h:fh CN T sl R) (mw:2≤sl∧sl≤256) (hz:∀x,sl≤x→x<256→CN.getD x 0=0) (hl:CN.getD (sl-1) 0≠0) (hR:R≤11) {a b:Nat} (w8:a≠b) (ha:a<256) (hb:b<256) (Im:CN.getD a 0≠0) (Pm:CN.getD b 0≠0)
    (ht:ko (cH (nr T sl) R (sl-1)) ys):xp CN (nr T sl) R (sl-1) ys:=by
  have eU:∀x,x<256→CN.getD x 0≠0→x<sl:=fun x hx h0=>Classical.byContradiction fun hn=>h0 (hz x Om hx)
  exact⟨jX,h.hw Om hl,h.whole mw.2 hR w8 (eU a ha Im) (eU b hb Pm) Im Pm,hR,fun x hx h0=>(h.has mw.2 (eU x hx h0) h0).1,ht⟩
structure Ask (CN:List Nat) (n:Nat):Prop where
  len:CN.length=256
  le:∀x,CN.getD x 0≤262144
  num:n=nzc CN
theorem Q8 {CN:List Nat} {i v:Nat} (hi:i<CN.length) (h0:CN.getD i 0=0) (hv:v≠0):nzc (CN.set i v)=nzc CN+1:=by
  rw[xm,xm,List.length_set];have h1:=w7 (W:=fun j=>if CN.getD j 0=0 then 0 else 1) (j:=i) (v:=1) hi;simp only[h0,if_true] at h1;have e:sm (fun j=>if (CN.set i v).getD j 0=0 then 0 else 1) CN.length=sm (fun j=>if j=i then 1 else if CN.getD j 0=0 then 0 else 1) CN.length:=cD fun j _=>by
    rw[aH hi];by_cases e:i=j
    · rw[if_pos e,if_pos e.symm,if_neg hv]
    · simp only[if_neg e,if_neg (show¬j=i from fun h=>e h.symm)]
  rw[e];omega
theorem Ld (n:Nat):nzc (List.replicate n 0)=0:=by
  induction n with
  |zero=>rfl
  |succ n ih=>rw[List.replicate_succ,nzc,ih];rfl
theorem Ask.begin:Ask (List.replicate 256 0) 0:=⟨List.length_replicate,fun x=>by rw[List.getD_eq_getElem?_getD,List.getElem?_replicate];split<;>simp,(Ld 256).symm⟩
theorem Ask.put {CN:List Nat} {n i v:Nat} (h:Ask CN n) (hi:i<256) (h0:CN.getD i 0=0) (hv:v≤262144) (vE:v≠0):Ask (CN.set i v) (n+1):=by
  have hl:=h.len;refine⟨by simp[hl],fun x=>?_,by rw[Q8 Om h0 vE,h.num]⟩;rw[aH Om];split
  · exact hv
  · exact h.le x
theorem Ask.akH {CN:List Nat} {n i:Nat} (h:Ask CN n) (hi:i<256) (h0:CN.getD i 0=0):CN.set i 0=CN:=by
  have hl:=h.len;refine pJ Oi fun j hj=>?_
  rw[aH Om];split
  · rename_i e;rw[←e,h0]
  · rfl
theorem Le:∀xs:List Nat,nzc xs≤xs.length
  |[]=>Nat.le_refl _
  |x::xs=>by have:=Le xs;simp only[nzc,List.length_cons];split<;>omega
theorem Lf {W:Nat→Nat} (h1:∀i,W i≤1):∀{n:Nat},2≤sm W n→∃i j,i<j∧j<n∧W i≠0∧W j≠0
  |0,h=>by simp[sm] at h
  |n+1,h=>by
    by_cases e:W n=0
    · obtain⟨i,j,a,b,c,d⟩:=Lf h1 (n:=n) (by simp only[sm] at h;omega);exact⟨i,j,a,Om,c,d⟩
    · have h2:=h1 n;obtain⟨i,a,b⟩:=B1 (W:=W) (n:=n) (by simp only[sm] at h;omega);exact⟨i,n,a,Om,b,e⟩
theorem Ask.two {CN:List Nat} {n:Nat} (h:Ask CN n) (h2:2≤n):∃a b,a≠b∧a<256∧b<256∧CN.getD a 0≠0∧CN.getD b 0≠0:=by
  rw[h.num,xm,h.len] at h2;obtain⟨i,j,a,b,c,d⟩:=Lf (fun i=>by show(if CN.getD i 0=0 then 0 else 1)≤1;split<;>omega) h2;exact⟨i,j,Om,Om,b,fun e=>c (if_pos e),fun e=>d (if_pos e)⟩
theorem Ask.akI {CN:List Nat} {n:Nat} (h:Ask CN n):n≤256:=by rw[h.num, ←h.len];exact Le CN
structure oG (CN:List Nat) (i:Nat) (y:Int):Prop where
  lo: -1≤y
  hi:y<(i:Int)
  z:∀x:Nat,y<(x:Int)→x<i→CN.getD x 0=0
  nz:∀x:Nat,y=(x:Int)→CN.getD x 0≠0
theorem oG.begin {CN:List Nat}:oG CN 0 (-1):=⟨Om,Om,fun x h1 h2=>Om,fun x h=>Om⟩
theorem oG.none {CN:List Nat} {i:Nat} {y:Int} (h:oG CN i y) (h0:CN.getD i 0=0):oG CN (i+1) y:=by
  have h1:=h.lo;have h2:=h.hi;refine⟨h1,Om,fun x a b=>?_,h.nz⟩;by_cases e:x=i
  · rw[e,h0]
  · exact h.z x a Om
theorem oG.put {CN:List Nat} {i:Nat} (h0:CN.getD i 0≠0):oG CN (i+1) ((i:Nat):Int):=⟨Om,Om,fun x a b=>Om,fun x a=>by
  have e:x=i:=Om;rw[e];exact h0⟩
theorem oG.fin {CN:List Nat} {y:Int} {sl:Nat} (h:oG CN 256 y) (h1:1≤sl∧sl≤256) (hz:∀x,sl≤x→x<256→CN.getD x 0=0) (hn:CN.getD (sl-1) 0≠0):y=((sl-1:Nat):Int):=by
  have a:=h.lo;have b:=h.hi;have c:¬y<((sl-1:Nat):Int):=fun e=>hn (h.z (sl-1) e Om)
  obtain⟨k,hk⟩:=Int.eq_ofNat_of_zero_le (show 0≤y by omega);have d:=h.nz k hk;have e:k<sl:=Classical.byContradiction fun e=>d (hz k Om Om)
  omega
theorem xp.cls {CN ls ys xs:List Nat} {R la n:Nat} (h:xp CN ls R la ys) (hb:Bytes xs) (hl:xs.length=n) (hx:∀j,j<n→CN.getD (xs.getD j 0) 0≠0):∀c ∈ xs,c<ls.length∧1≤ls.getD c 0∧ls.getD c 0≤11:=fun c hc=>by
  have IL:=hb c hc;have hlen:=h.len;obtain⟨j,hj,hj2⟩:=List.mem_iff_getElem.1 hc;have hj3:=hx j Om;have e9:xs.getD j 0=c:=by simp[List.getD_eq_getElem?_getD,hj,hj2]
  rw[e9] at hj3;exact⟨Om,h.has c IL hj3,h.wh.2.1.at_ c⟩
variable {P:Program} {ρ:bx} {o:Oper} {x y:Operand}
theorem Eo {ms:Array (String × TypeId)} {a:Addr} {tp te ty cS:TypeId} (ho:o.op=.binOp .eql ty x y cS) (hx:ev ρ x=some (.iface tp (.pointer (some a)))) (hy:ev ρ y=some (.iface tp (.pointer (some a)))) (hu:P.underlying ty=some (.interface ms)) (hp:P.underlying tp=some (.pointer te)) (hc:(P.info? tp).map (·.comparable)=some true) (hs:(P.info? te).isSome=true):bJ P ρ o (.bool true):=fun ac ha w=>by
  obtain⟨i,hi,Bf⟩:=Option.map_eq_some_iff.1 hc;obtain⟨j,hj⟩:=Option.isSome_iff_exists.1 hs;have hg:(eqGuard .eql ty x y (.iface tp (.pointer (some a))) (.iface tp (.pointer (some a)))).run P w=.ok () w:=by
    unfold eqGuard;simp
  have hr:=run_eql_iface_ptr_same w a hu hp hi Bf hj;simp only[execOp,ho,cq ha hx,cq ha hy,Sem.run_bind,hg,hr,Result.andThen_ok,Sem.run_pure]
theorem Tk {ls:List Nat}:∀t:List Nat,(∀c ∈ t,ls.getD c 0≤11)→tN (um ls) t≤11*t.length
  |[],_=>by simp[tN]
  |c::t,h=>by
    have h1:=Tk t (fun x hx=>h x (List.mem_cons_of_mem _ hx));have h2:=h c List.mem_cons_self;simp only[tN,um,List.length_cons];show ls.getD c 0+tN (um ls) t≤_;omega
end Go.Proofs.YtaphmhiddngdoaaGreatDoor
namespace Go.Proofs.YtaphmhiddngdoaaGreatDoor
open Go
theorem cK.at_ {l l':Nat} {cs:List Int} {E:List Nat} (h:cK l cs E) (e:l'=l):cK l' cs E:=e▸h
def pM (Φ:List Int→List Nat→Prop) (v:Value) (l':List aV):Prop:=∃q b o cs cap xs n q2 b2 o2 Tl Ci ys n2,v=.tuple #[.slice q n cap,.int .i64 ((5:Nat):Int),.slice q2 n2 Ci,.bool true]∧GS q b o cs 1 cap∧n≤cap∧cs.take n=ints .i64 xs∧xs.length=n∧GS q2 b2 o2 Tl 1 Ci∧n2≤Ci∧Tl.take n2=ae .u8 ys∧ys.length=n2∧Φ xs ys∧l'=[⟨b,o,cs,none⟩,⟨b2,o2,Tl,none⟩]
theorem pM.mk {Φ:List Int→List Nat→Prop} {q:Option Addr} {b o:Nat} {cs:List Value} {cap:Nat} {xs:List Int} {n:Nat} {q2:Option Addr} {b2 o2:Nat} {Tl:List Value} {Ci:Nat} {ys:List Nat} {n2:Nat} (h1:GS q b o cs 1 cap) (h2:n≤cap) (h3:cs.take n=ints .i64 xs) (h4:xs.length=n) (h5:GS q2 b2 o2 Tl 1 Ci) (h6:n2≤Ci) (h7:Tl.take n2=ae .u8 ys) (h8:ys.length=n2) (h9:Φ xs ys):
    pM Φ (.tuple #[.slice q n cap,.int .i64 ((5:Nat):Int),.slice q2 n2 Ci,.bool true]) [⟨b,o,cs,none⟩,⟨b2,o2,Tl,none⟩]:=⟨q,b,o,cs,cap,xs,n,q2,b2,o2,Tl,Ci,ys,n2,rfl,h1,h2,h3,h4,h5,h6,h7,h8,h9,rfl⟩
def Q9 (k:IntKind) (xs:List Nat) (v:Value) (l':List aV):Prop:=∃q b o cs cap,v=.tuple #[.slice q xs.length cap,.bool true]∧GS q b o cs 1 cap∧xs.length≤cap∧cs.take xs.length=ae k xs∧l'=[⟨b,o,cs,none⟩]
theorem Q9.mk {k:IntKind} {xs P:List Nat} {m:Nat} {q:Option Addr} {b o cap:Nat} {cs:List Value} (hg:GS q b o cs 1 cap) (hc:m≤cap) (hp:cs.take m=ae k P) (hl:P.length=m) (e:P=xs):Q9 k xs (.tuple #[.slice q m cap,.bool true]) [⟨b,o,cs,none⟩]:=by
  subst e;subst hl;exact⟨q,b,o,cs,cap,rfl,hg,hc,hp,rfl⟩
def tg (xs:List Nat) (u:Nat) (v:Value) (l':List aV):Prop:=∃q b o cs cap,v=.tuple #[.slice q xs.length cap,.int .i64 ((u:Nat):Int),.bool true]∧GS q b o cs 1 cap∧xs.length≤cap∧cs.take xs.length=ae .i64 xs∧l'=[⟨b,o,cs,none⟩]
theorem tg.mk {xs P:List Nat} {m u u':Nat} {q:Option Addr} {b o cap:Nat} {cs:List Value} (hg:GS q b o cs 1 cap) (hc:m≤cap) (hp:cs.take m=ae .i64 P) (hl:P.length=m) (e:P=xs) (eu:u'=u):tg xs u (.tuple #[.slice q m cap,.int .i64 ((u':Nat):Int),.bool true]) [⟨b,o,cs,none⟩]:=by
  subst e;subst hl;subst eu;exact⟨q,b,o,cs,cap,rfl,hg,hc,hp,rfl⟩
theorem tg.whole {xs P:List Nat} {u m b:Nat} (hl:xs.length=m) (e:P=xs):tg xs u (.tuple #[.slice (some ⟨b,0,none⟩) m m,.int .i64 ((u:Nat):Int),.bool true]) [⟨b,0,ae .i64 P,none⟩]:=by
  subst e;subst hl;exact⟨some ⟨b,0,none⟩,b,0,_,P.length,rfl,⟨Oi,.inl rfl⟩,Nat.le_refl _,List.take_of_length_le Oi,rfl⟩
end Go.Proofs.YtaphmhiddngdoaaGreatDoor
