/- The walk's own engine and plain laws, part 2. -/
import Derived.Test.YtekcchgffhphbaaGreatDoorP1
import Derived.Lib.AppendZerosOnto
import Derived.LaidEql
set_option linter.unusedVariables false
set_option linter.unusedSimpArgs false
namespace Go.Proofs.YtekcchgffhphbaaGreatDoor
def hB (CN:List Nat) (x:Nat):Nat:=aq (CN.getD x 0+1)-1
theorem Av {CN:List Nat} {x:Nat} (h:CN.getD x 0≤262144):hB CN x≤18:=by
  unfold hB;have:aq (CN.getD x 0+1)≤19:=cL Om;omega
theorem WW {CN:List Nat} {x y:Nat} (h:hB CN x<hB CN y):CN.getD x 0≤CN.getD y 0:=by
  unfold hB at h;have h1:=ir (CN.getD x 0+1);have h2:=sW (show 0<CN.getD y 0+1 by omega);have h3:=dy (show 0<CN.getD x 0+1 by omega);have h4:2^aq (CN.getD x 0+1)≤2^(aq (CN.getD y 0+1)-1):=Nat.pow_le_pow_right Om Om;omega
def bq (h:Nat→Nat) (len:Nat):Nat→Nat
  |0=>len
  |r+1=>bk h len r
theorem BH (h:Nat→Nat) (len n:Nat):bq h len (n+1)+k7 h n len=bq h len n:=by
  cases n with
  |zero=>exact tC h len
  |succ n=>exact qw h n len
theorem xR {P:Nat→Bool}:∀{n:Nat},(∀x,x<n→P x=false)→ct P n=0
  |0,_=>rfl
  |n+1,h=>by simp only[ct];rw[xR fun x hx=>h x Om,h n Om];rfl
theorem Gx {h:Nat→Nat} {len r:Nat} (hr:∀x,x<len→h x≤r):bk h len r=0:=xR fun x hx=>ab3 (by have:=hr x hx;omega)
theorem WX {h:Nat→Nat} {len r n:Nat} (hr:∀x,x<len→h x<r) (hn:n≤len):k7 h r n=0:=xR fun x hx=>Oh (by have:=hr x Om;omega)
theorem D2 {h:Nat→Nat} {r n:Nat}:k7 h r (n+1)=k7 h r n+if h n=r then 1 else 0:=by
  grind [k7,ct,ab4,Oh]
section
variable {h:Nat→Nat} {K:List Nat} {len n:Nat}
def K0 (h:Nat→Nat) (K:List Nat) (n:Nat):Prop:=K.length=64∧(∀r,r<32→K.getD (r*2) 0=k7 h r n)∧∀r,r<32→K.getD (r*2+1) 0=0
def K1 (h:Nat→Nat) (len:Nat) (K:List Nat) (n:Nat):Prop:=K.length=64∧(∀r,r<32→K.getD (r*2) 0=if n≤r then bq h len r else k7 h r len)∧∀r,r<32→K.getD (r*2+1) 0=0
def K2 (h:Nat→Nat) (len:Nat) (K:List Nat) (n:Nat):Prop:=K.length=64∧(∀r,r<32→K.getD (r*2) 0=bq h len r)∧∀r,r<32→K.getD (r*2+1) 0=if r<n then bq h len r else 0
def K3 (h:Nat→Nat) (len:Nat) (K:List Nat) (n:Nat):Prop:=K.length=64∧(∀r,r<32→K.getD (r*2) 0=bq h len r)∧∀r,1≤r→r<32→K.getD (r*2+1) 0=bq h len r+k7 h (r-1) n
theorem mF (n i:Nat):(List.replicate n 0).getD i 0=0:=by
  grind
theorem K0.begin:K0 h (List.replicate 64 0) 0:=⟨List.length_replicate,fun r hr=>mF 64 _,fun r hr=>mF 64 _⟩
theorem K0.step (hk:K0 h K n) {r:Nat} (hr:r=h n) (qP:r<32):K0 h (K.set (r*2) (K.getD (r*2) 0+1)) (n+1):=by
  obtain⟨h1,h2,h3⟩:=hk;refine⟨by simp[h1],fun q hq=>?_,fun q hq=>?_⟩
  · grind [aS,D2]
  · grind
theorem K0.next (hk:K0 h K len) (hh:∀x,x<len→h x≤18):K1 h len K 19:=by
  obtain⟨h1,h2,h3⟩:=hk;refine⟨h1,fun r hr=>?_,h3⟩;rw[h2 r hr];split
  · rename_i h9;rw[WX (len:=len) (fun x hx=>by have:=hh x hx;omega) (Nat.le_refl _)];cases r with
    |zero=>omega
    |succ r=>exact(Gx fun x hx=>by have:=hh x hx;omega).symm
  · rfl
theorem K1.step (hk:K1 h len K n) (h1:1≤n) (hn:n≤19):K1 h len (K.set ((n-1)*2) (K.getD ((n-1)*2) 0+K.getD (n*2) 0)) (n-1):=by
  obtain⟨hl,h2,h3⟩:=hk;refine⟨by simp[hl],fun r hr=>?_,fun q hq=>?_⟩
  · rw[aS Om];by_cases e:n-1=r
    · subst e;rw[if_pos rfl,h2 _ hr,h2 n Om,if_neg Om,if_pos (Nat.le_refl _),if_pos (Nat.le_refl _), ←BH h len (n-1),show n-1+1=n by omega,Nat.add_comm]
    · grind
  · grind
theorem K1.next (hk:K1 h len K 0):K2 h len K 0:=by
  obtain⟨hl,h2,h3⟩:=hk;refine⟨hl,fun r hr=>?_,fun r hr=>by rw[if_neg Om];exact h3 r hr⟩;grind
theorem K2.step (hk:K2 h len K n) (hn:n<32):K2 h len (K.set (n*2+1) (K.getD (n*2) 0)) (n+1):=by
  obtain⟨hl,h2,h3⟩:=hk;refine⟨by simp[hl],fun r hr=>?_,fun r hr=>?_⟩
  · grind
  · grind
theorem K2.next (hk:K2 h len K 19) (hh:∀x,x<len→h x≤18):K3 h len K 0:=by
  obtain⟨hl,h2,h3⟩:=hk;refine⟨hl,h2,fun r h1 hr=>?_⟩;rw[h3 r hr];have:k7 h (r-1) 0=0:=rfl;rw[this];split
  · rfl
  · rename_i h9;cases r with
    |zero=>omega
    |succ r=>exact(Gx fun x hx=>by have:=hh x hx;omega).symm
theorem K3.step (hk:K3 h len K n) {r:Nat} (hr:r=h n+1) (qP:r<32):K3 h len (K.set (r*2+1) (K.getD (r*2+1) 0+1)) (n+1):=by
  obtain⟨hl,h2,h3⟩:=hk;refine⟨by simp[hl],fun q hq=>?_,fun q h1 hq=>?_⟩
  · grind
  · grind [aS,D2]
theorem K3.at_ (hk:K3 h len K n) {r:Nat} (hr:r=h n+1) (qP:r<32):K.getD (r*2) 0=bk h len (h n)∧K.getD (r*2+1) 0=bk h len (h n)+k7 h (h n) n:=by
  obtain⟨hl,h2,h3⟩:=hk;subst hr;exact⟨h2 _ qP,h3 _ Om qP⟩
end
def zz (Z:List Nat) (i:Nat):Nat × Nat:=(cZ Z (1+i),sZ Z (1+i))
theorem OQ {Z Z':List Nat} {i j:Nat} (h:Z.getD (1+i) 0=Z'.getD (1+j) 0):zz Z i=zz Z' j:=by unfold zz cZ sZ;rw[h]
theorem ajN {Z:List Nat} {i c s:Nat} (h:Z.getD (1+i) 0=WV c s) (hc:c<4294967296) (hs:s<256):zz Z i=(c,s):=by
  grind [zz,cZ,sZ,WV]
structure WY (Z0 Z:List Nat) (c b p p0:Nat):Prop where
  pb:b≤p∧p≤p0∧p0≤255
  len:Z.length=513
  z1:∀i,i<p→Z.getD (1+i) 0=Z0.getD (1+i) 0
  z3:∀i,p≤i→i<p0→Z.getD (1+(i+1)) 0=Z0.getD (1+i) 0
  z4:∀i,p0<i→Z.getD (1+i) 0=Z0.getD (1+i) 0
  hi:∀i,p≤i→i<p0→cZ Z0 (1+i)<c
section
variable {Z0 Z:List Nat} {c b p p0:Nat}
theorem WY.begin (h1:b≤p0) (h2:p0≤255) (hl:Z0.length=513):WY Z0 Z0 c b p0 p0:=⟨⟨h1,Nat.le_refl _,h2⟩,hl,fun _ _=>rfl,fun i h3 h4=>Om,fun _ _=>rfl,fun i h3 h4=>Om⟩
theorem WY.step (h:WY Z0 Z c b p p0) (hp:b<p) {y:Nat} (hy:y=Z.getD (1+(p+511)%512) 0) (hc:y%4294967296<c):WY Z0 (Z.set (1+p) y) c b (p-1) p0:=by
  obtain⟨h1,h2,h3⟩:=h.pb;have hl:=h.len;have e:(p+511)%512=p-1:=Om;rw[e] at hy;have vc:y=Z0.getD (1+(p-1)) 0:=by rw[hy];exact h.z1 (p-1) Om
  refine⟨⟨Om,Om,h3⟩,by simp[hl],fun i hi=>?_,fun i hi hj=>?_,fun i hi=>?_,fun i hi hj=>?_⟩
  · rw[aS Om,if_neg Om];exact h.z1 i Om
  · rw[aS Om];by_cases e2:i+1=p
    · grind
    · rw[if_neg Om];exact h.z3 i Om hj
  · rw[aS Om,if_neg Om];exact h.z4 i hi
  · by_cases e2:i+1=p
    · grind [cZ]
    · exact h.hi i Om hj
theorem WY.fin {len n:Nat} {CN:List Nat} (h:WY Z0 Z (CN.getD n 0) (bk (hB CN) len (hB CN n)) p (bk (hB CN) len (hB CN n)+k7 (hB CN) (hB CN n) n)) (H:HS len (fun x=>CN.getD x 0) (hB CN) n (zz Z0)) (hn:n<len) (hl:len≤256) (hc:CN.getD n 0≤262144)
    (rO:p=bk (hB CN) len (hB CN n)∨CN.getD n 0≤Z.getD (1+(p+511)%512) 0%4294967296):HS len (fun x=>CN.getD x 0) (hB CN) (n+1) (zz (Z.set (1+p) (WV (CN.getD n 0) n))):=by
  obtain⟨h1,h2,h3⟩:=h.pb;have hlen:=h.len;refine H.put hn ⟨h1,h2⟩ ?_ (fun i hi hj=>h.hi i hi hj) (fun i hi=>?_) ?_ (fun i hi hj=>?_) (fun i hi=>?_)
  · rcases rO with rO|rO
    · omega
    · by_cases e:p=bk (hB CN) len (hB CN n)
      · exact .inl e
      · right;rw[show(p+511)%512=p-1 by omega,h.z1 (p-1) Om] at rO;exact rO
  · exact OQ (by rw[aS Om,if_neg Om];exact h.z1 i hi)
  · grind [ajN,aS]
  · exact OQ (by rw[aS Om,if_neg Om];exact h.z3 i hi hj)
  · exact OQ (by rw[aS Om,if_neg Om];exact h.z4 i hi)
end
structure zp (CN Z:List Nat) (len:Nat):Prop where
  Bu:∀i,i<len→∃x,x<len∧cZ Z (1+i)=CN.getD x 0∧sZ Z (1+i)=x
  OR:∀x,x<len→∃i,i<len∧cZ Z (1+i)=CN.getD x 0∧sZ Z (1+i)=x
  mB:∀i j,i≤j→j<len→cZ Z (1+j)≤cZ Z (1+i)
theorem zp.of {CN Z:List Nat} {len:Nat} (H:HS len (fun x=>CN.getD x 0) (hB CN) len (zz Z)) (hh:∀x,x<len→CN.getD x 0≤262144):zp CN Z len:=by
  obtain⟨h1,h2,h3⟩:=H.fin (R:=18) (Gx fun x hx=>Av (hh x hx)) fun x y _ _ h=>WW h
  refine⟨fun i hi=>?_,fun x hx=>?_,fun i j DN hj=>h3 i j DN hj⟩
  · obtain⟨x,a,b⟩:=h1 i hi;exact⟨x,a,congrArg Prod.fst b,congrArg Prod.snd b⟩
  · obtain⟨i,a,b⟩:=h2 x hx;exact⟨i,a,congrArg Prod.fst b,congrArg Prod.snd b⟩
theorem Gy {x:Nat}:x&&&511=x%512:=Nat.and_two_pow_sub_one_eq_mod x 9
theorem JO {p:Nat} (h:p≤1000):(p+4294967296-1)%4294967296&&&511=(p+511)%512:=by rw[Gy];omega
theorem acq {CN:List Nat} {x:Nat} (h:CN.getD x 0≤262144):aq (CN.getD x 0+1)-1&&&31=hB CN x:=by
  have:=Av h;rw[show(31:Nat)=2^5-1 from rfl,Nat.and_two_pow_sub_one_eq_mod];grind [hB]
theorem acr {CN:List Nat} {x:Nat} (h:CN.getD x 0≤262144):aq (CN.getD x 0+1)-1+1&&&31=hB CN x+1:=by
  have:=Av h;rw[show(31:Nat)=2^5-1 from rfl,Nat.and_two_pow_sub_one_eq_mod];grind [hB]
def bL (Z:List Nat) (N:Nat):List Nat:=(List.range N).map fun i=>bZ Z (1+i)
theorem ee (Z:List Nat) (N:Nat):(bL Z N).length=N:=by simp[bL]
theorem fe {Z:List Nat} {N i:Nat} (h:i<N):(bL Z N).getD i 0=bZ Z (1+i):=by simp[bL,List.getD_eq_getElem?_getD,h]
theorem OS {Z:List Nat} {N p n:Nat} (hp:p<N) (hl:N<Z.length) (hn:n<256):bL (Z.set (1+p) (nY (Z.getD (1+p) 0) n)) N=(bL Z N).set p n:=by
  refine tK (by rw[List.length_set,ee,ee]) fun i hi=>?_
  grind [ee,fe,Gw,ab0]
def pj (Z0 Z:List Nat):Prop:=∀i,cZ Z i=cZ Z0 i∧sZ Z i=sZ Z0 i
theorem pj.WZ (Z:List Nat):pj Z Z:=fun i=>⟨rfl,rfl⟩
theorem pj.B {Z0 Z:List Nat} (h:pj Z0 Z) {j n:Nat} (hj:j<Z.length) (hn:n<256):pj Z0 (Z.set j (nY (Z.getD j 0) n)):=fun i=>by rw[ajJ hj hn,ajK hj hn];exact h i
structure U5 (b0:Nat→Nat) (L N:Nat):Prop where
  N2:2≤N∧N≤256
  mB:∀i j,i≤j→j<N→b0 i≤b0 j
  sK:∀i,i<N→1≤b0 i∧b0 i≤L
  top:b0 (N-1)=L
  sum:sm (fun i=>2^(L-b0 i)) N=2^L
section
variable {b0:Nat→Nat} {L N M q tc:Nat} {Z Z0:List Nat}
theorem U5.first (h:U5 b0 L N) (hN:N≤2^M) (hL:M<L):b0 0≤M:=by
  apply Classical.byContradiction;intro hn;have h1:sm (fun i=>2^(L-b0 i)) N≤sm (fun _=>2^(L-M-1)) N:=Jx fun i hi=>by
    have h2:=h.mB 0 i (Nat.zero_le _) hi;exact Nat.pow_le_pow_right Om Om
  rw[h.sum,fI] at h1;have h3:N*2^(L-M-1)≤2^M*2^(L-M-1):=Nat.mul_le_mul_right _ hN;rw[←Nat.pow_add] at h3;have h4:2^(M+(L-M-1))<2^L:=Nat.pow_lt_pow_right Om Om;omega
structure Cut (b0:Nat→Nat) (L N M:Nat) (Z:List Nat) (q tc:Nat):Prop where
  ql:q<N
  bits:∀i,i<N→bZ Z (1+i)=if i≤q then b0 i else M
  hi:∀i,q<i→i<N→M<b0 i
  cost:tc=sm (fun j=>2^(L-M)-2^(L-b0 (q+1+j))) (N-1-q)
theorem Cut.begin (h:U5 b0 L N) (hb:∀i,i<N→bZ Z (1+i)=b0 i):Cut b0 L N M Z (N-1) 0:=by
  have:=h.N2;exact⟨Om,fun i hi=>by rw[if_pos Om];exact hb i hi,fun i h1 h2=>Om,by rw[show N-1-(N-1)=0 by omega];rfl⟩
theorem Cut.small (h:Cut b0 L N M Z q tc) (hH:U5 b0 L N) (hL:L≤40):tc≤256*2^40:=by
  have h1:tc≤sm (fun _=>2^40) (N-1-q):=by
    rw[h.cost];exact Jx fun j hj=>by
      have:2^(L-M)≤2^40:=Nat.pow_le_pow_right Om Om;grind
  rw[fI] at h1;have:=hH.N2;grind
theorem Cut.step (h:Cut b0 L N M Z q tc) (hH:U5 b0 L N) (hN:N≤2^M) (hML:M<L) (hq:M<bZ Z (1+q)) (hl:N<Z.length) (hM:M<256):1≤q∧Cut b0 L N M (Z.set (1+q) (nY (Z.getD (1+q) 0) M)) (q-1) (tc+(2^(L-M)-2^(L-bZ Z (1+q)))):=by
  have hb:=h.bits q h.ql;rw[if_pos (Nat.le_refl _)] at hb;rw[hb] at hq ⊢;have hf:=hH.first hN hML
  have L':1≤q:=by
    grind
  have Zd:=h.ql;refine⟨L',Om,fun i hi=>?_,fun i h1 h2=>?_,?_⟩
  · rw[Gw Om hM];by_cases e:i=q
    · grind
    · rw[if_neg Om,h.bits i hi];grind
  · by_cases e:i=q
    · grind
    · exact h.hi i Om h2
  · rw[show N-1-(q-1)=(N-1-q)+1 by omega,j7,h.cost,show q-1+1+0=q by omega,Nat.add_comm];grind
structure Zj (M N:Nat) (Z:List Nat) (T:Nat):Prop where
  mB:∀i j,i≤j→j<N→bZ Z (1+i)≤bZ Z (1+j)
  sK:∀i,i<N→1≤bZ Z (1+i)∧bZ Z (1+i)≤M
  T1:1≤T
  sum:kr M (bL Z N)=2^M+T
  mm:T<kZ M (bL Z N)
theorem Cut.fin (h:Cut b0 L N M Z q tc) (hH:U5 b0 L N) (hML:M<L) (hM:1≤M) (hq:bZ Z (1+q)≤M):Zj M N Z (tc/2^(L-M))∧∀i,q<i→i<N→bZ Z (1+i)=M:=by
  have hb:=h.bits q h.ql;rw[if_pos (Nat.le_refl _)] at hb;have Zd:=h.ql;have hN:=hH.N2;have hqN:q+1<N:=by
    apply Classical.byContradiction;intro hn;have:q=N-1:=Om;rw[hb,this,hH.top] at hq;omega
  have h1:∀i,i≤q→b0 i≤M:=fun i hi=>by have:=hH.mB i q hi Zd;omega
  obtain⟨T,t1,t2,t3,t4⟩:=ab2 (bs:=bL Z N) hML hqN h1 (fun i a b=>⟨h.hi i a b,(hH.sK i b).2⟩) hH.sum (ee Z N) (fun i hi=>by rw[fe hi];exact h.bits i hi);have hT:tc/2^(L-M)=T:=by rw[h.cost,t1,Nat.mul_div_cancel _ (Nat.two_pow_pos _)]
  rw[hT];refine⟨⟨fun i j DN hj=>?_,fun i hi=>?_,t2,t3,t4⟩,fun i a b=>by rw[h.bits i b,if_neg Om]⟩
  · rw[h.bits i Om,h.bits j hj];have:=hH.mB i j DN hj;grind
  · rw[h.bits i hi];have:=hH.sK i hi;grind
theorem Zj.short {T:Nat} (h:Zj M N Z T) (hN:N≤2^M):∃i,i<N∧bZ Z (1+i)<M:=by
  apply Classical.byContradiction;intro hn;have ha:∀i,i<(bL Z N).length→(bL Z N).getD i 0=M:=fun i hi=>by
    rw[ee] at hi;rw[fe hi];have h1:=h.sK i hi;grind
  have h1:=Gk ha;have h2:=h.sum;have h3:=h.T1;grind [ee]
theorem Zj.prev {T:Nat} (h:Zj M N Z T) (hN:N≤2^M) (ha:∀i,q<i→i<N→bZ Z (1+i)=M) (hq:bZ Z (1+q)=M):1≤q:=by
  obtain⟨i,hi,hl⟩:=h.short hN;grind
end
theorem D3 {Z:List Nat} {q N M:Nat} (ha:∀i,q<i→i<N→bZ Z (1+i)=M) (hq:bZ Z (1+q)=M) (h1:1≤q):∀i,q-1<i→i<N→bZ Z (1+i)=M:=fun i h2 h3=>by
  grind
structure Ma (M N:Nat) (Z:List Nat) (q k cu:Nat) (rl:List Nat):Prop where
  len:rl.length=13
  kq:k≤q+1
  cu1:k≤q→cu=bZ Z (1+k)
  cu2:k=q+1→cu=M
  rk:∀j,1≤j→j≤12→(rl.getD j 0=mR∧∀i,k≤i→i<N→bZ Z (1+i)+j≠M)∨(rl.getD j 0<N∧bZ Z (1+rl.getD j 0)+j=M∧∀i,rl.getD j 0<i→i<N→bZ Z (1+i)+j≠M)
section
variable {M N q k cu T:Nat} {Z rl:List Nat}
theorem Ma.begin (hl:rl.length=13) (hr:∀i,i<13→rl.getD i 0=mR) (ha:∀i,q<i→i<N→bZ Z (1+i)=M):Ma M N Z q (q+1) M rl:=
  ⟨hl,Nat.le_refl _,fun h=>Om,fun _=>rfl,fun j h1 h2=>.inl ⟨hr j Om,fun i h3 h4=>by rw[ha i Om h4];omega⟩⟩
theorem Ma.same (h:Ma M N Z q k cu rl) (hc:Zj M N Z T) (hk:1≤k) (hq:q<N) (hqM:bZ Z (1+q)≠M) (hb:¬bZ Z (1+(k-1))<cu):Ma M N Z q (k-1) cu rl:=by
  have hkq:=h.kq;have h1:=hc.mB (k-1) q Om hq;have h2:=hc.sK q hq;have uw:k≤q:=by
    apply Classical.byContradiction;intro hn;have:=h.cu2 Om;omega
  have hcu:=h.cu1 uw;have h3:=hc.mB (k-1) k Om Om;refine⟨h.len,Om,fun _=>Om,fun _=>Om,fun j j1 j2=>?_⟩;rcases h.rk j j1 j2 with ⟨r1,r2⟩|r
  · grind
  · exact .inr r
theorem Ma.new (h:Ma M N Z q k cu rl) (hc:Zj M N Z T) (hk:1≤k) (hq:q<N) (ha:∀i,q<i→i<N→bZ Z (1+i)=M) (hM:M≤11) (hb:bZ Z (1+(k-1))<cu):Ma M N Z q (k-1) (bZ Z (1+(k-1))) (rl.set (M-bZ Z (1+(k-1))) (k-1)):=by
  have hkq:=h.kq;have hl:=h.len;have hr:=hc.sK (k-1) Om;have hcM:cu≤M:=by
    rcases Nat.lt_or_ge q k with e|e
    · have:=h.cu2 Om;omega
    · have:=h.cu1 e;have:=hc.sK k Om;omega
  have hup:∀i,k≤i→i<N→cu≤bZ Z (1+i):=fun i h1 h2=>by
    rcases Nat.lt_or_ge q k with e|e
    · grind
    · rw[h.cu1 e];exact hc.mB k i h1 h2
  refine⟨by simp[hl],Om,fun _=>by rw[show 1+(k-1)=1+(k-1) from rfl],fun _=>Om,fun j j1 j2=>?_⟩;rw[aS Om];by_cases e:M-bZ Z (1+(k-1))=j
  · grind
  · rw[if_neg e];rcases h.rk j j1 j2 with ⟨r1,r2⟩|r
    · grind
    · exact .inr r
theorem Ma.fin (h:Ma M N Z q 0 cu rl) (hc:Zj M N Z T) (hM:M≤11) (hN:N≤256) (DW:N≤2^M):xI M (bL Z N) ((T:Nat):Int) rl:=by
  have hT:=hc.T1;have hs:=hc.sum;have hm:=hc.mm;refine⟨hM,by rw[ee];exact⟨hN,DW⟩,fun i j DN hj=>?_,fun i hi=>?_,by rw[hs];push_cast;rfl,⟨Om,Om⟩,fun h9=>Om,h.len,fun j j1 j2=>?_⟩
  · rw[ee] at hj;rw[fe Om,fe hj];exact hc.mB i j DN hj
  · rw[ee] at hi;rw[fe hi];exact hc.sK i hi
  · rcases h.rk j j1 j2 with ⟨r1,r2⟩|⟨r1,r2,r3⟩
    · refine .inl ⟨r1,fun i hi=>?_⟩;grind [ee,fe]
    · refine .inr ⟨by rw[ee];exact r1,by rw[fe r1];exact r2,fun i h4 hi=>?_⟩;grind [ee,fe]
end
section
variable {M N q k:Nat} {Z rl:List Nat} {T:Int}
theorem xI.atZ (h:xI M (bL Z N) T rl) {k:Nat} (h1:1≤k) (h2:k≤12) (hk:rl.getD k 0≠mR):rl.getD k 0<N∧bZ Z (1+rl.getD k 0)+k=M∧1≤bZ Z (1+rl.getD k 0):=by
  obtain⟨a,b,c⟩:=h.at_ h1 h2 hk;have d:=h.sK _ a;grind [ee,fe]
theorem xI.small (h:xI M (bL Z N) T rl):T≤256:=by
  have h1:=h.mm;have h2:=Br (M:=M) (bs:=bL Z N);have h3:=h.len.1;omega
theorem xI.An (h:xI M (bL Z N) T rl) (hT:0<T) {k p:Nat} (h1:1≤k) (h2:k≤12) (hk:rl.getD k 0≠mR) (hp:p=rl.getD k 0) (hl:N<Z.length)
    (hc:2^(k-1)≤T.toNat∨∀j,1≤j→j<k→rl.getD j 0=mR) {r1 rl':List Nat} (FE:r1=if rl.getD (k-1) 0=mR then rl.set (k-1) p else rl)
    (hrl:(p=0∧rl'=r1.set k mR)∨(p≠0∧bZ Z (1+(p-1))+k=M∧rl'=r1.set k (p-1))∨(p≠0∧bZ Z (1+(p-1))+k≠M∧rl'=r1.set k mR)) {w:Nat} (hw:w=1+bZ Z (1+p)):
    xI M (bL (Z.set (1+p) (nY (Z.getD (1+p) 0) w)) N) (T-((2^(k-1):Nat):Int)) rl':=by
  subst hp;obtain⟨a,b,c⟩:=h.atZ h1 h2 hk;have Mb:w=M-k+1:=Om;have hM:=h.M11;rw[OS a hl Om,Mb];have hs:=h.step hT h1 h2 hk (by
    grind)
  grind [u5,bL,fe]
theorem rQ {p w:Nat} (ha:∀i,q<i→i<N→bZ Z (1+i)=M) (hp:p<N) (hb:bZ Z (1+p)≠M) (hl:N<Z.length) (hw:w<256):∀i,q<i→i<N→bZ (Z.set (1+p) (nY (Z.getD (1+p) 0) w)) (1+i)=M:=fun i h1 h2=>by
  grind [Gw]
theorem xI.asS (h:xI M (bL Z N) T rl) (hT:T≤0) (hq:q<N) (ha:∀i,q<i→i<N→bZ Z (1+i)=M):xJ M (bL Z N) T (rl.getD 1 0) q:=
  h.pay hT ⟨by rw[ee];exact hq,fun i h1 h2=>by rw[ee] at h2;rw[fe h2];exact ha i h1 h2⟩
theorem xJ.prev {v n:Nat} (h:xJ M (bL Z N) T v n) (hT:T<0) (ha:∀i,q<i→i<N→bZ Z (1+i)=M) (hq:bZ Z (1+q)=M):1≤q:=by
  obtain⟨i,hi,hl⟩:=h.ex hT;grind [ee,fe]
theorem xJ.nnZ {n:Nat} {v:Nat} (h:xJ M (bL Z N) T v n) (hv:v=mR):n<N∧∀i,n<i→i<N→bZ Z (1+i)=M:=by
  obtain⟨a,b⟩:=h.nn hv;grind [ee,fe]
theorem xJ.acs {v n:Nat} (h:xJ M (bL Z N) T v n) (hT:T<0) (hq:q<N) (h2:bZ Z (1+q)≠M) (ha:∀i,q<i→i<N→bZ Z (1+i)=M):q+1<N∧bZ Z (1+(q+1))=M∧∀i,i<q+1→(bL Z N).getD i 0<M:=by
  obtain⟨a,b,c⟩:=h.first hT (n':=q) (by rw[ee];exact hq) (by rw[fe hq];exact h2) (fun i h1 h3=>by rw[ee] at h3;rw[fe h3];exact ha i h1 h3)
  grind [ee,fe]
theorem xJ.ajO {v n:Nat} (h:xJ M (bL Z N) T v n) (hT:T<0) (hv:v≠mR):v+1<N∧bZ Z (1+(v+1))=M∧∀i,i<v+1→(bL Z N).getD i 0<M:=by
  obtain⟨a,b,c⟩:=h.next hT hv;grind [ee,fe]
theorem xJ.ajP {v n p w:Nat} (h:xJ M (bL Z N) T v n) (hT:T<0) (hp:p<N) (hM:bZ Z (1+p)=M) (hl:∀i,i<p→(bL Z N).getD i 0<M) (hZ:N<Z.length) (hw:w=bZ Z (1+p)-1) (n':Nat):xJ M (bL (Z.set (1+p) (nY (Z.getD (1+p) 0) w)) N) (T+1) p n':=by
  have vN:=h.M11;rw[OS hp hZ Om,hw,hM];exact h.put hT (by rw[ee];exact hp) (by rw[fe hp];exact hM) hl n'
structure Whl (Z:List Nat) (N R:Nat):Prop where
  sK:∀i,i<N→1≤bZ Z (1+i)∧bZ Z (1+i)≤R
  sum:sm (fun i=>2^(R-bZ Z (1+i))) N=2^R
  top:∃i,i<N∧bZ Z (1+i)=R
theorem xJ.done {v n:Nat} (h:xJ M (bL Z N) T v n) (hT:¬T<0):Whl Z N M:=by
  have h0:=h.T0;have hs:=h.sum;have hm:=h.mm;have Ot:T=0:=Om;subst Ot;refine⟨fun i hi=>by have:=h.sK i (by rw[ee];exact hi);rwa [fe hi] at this,?_,?_⟩
  · grind [kr,bL,Og,ee,bx,fe]
  · grind [tB,bL,ee,fe]
theorem U5.done {b0:Nat→Nat} {L:Nat} (h:U5 b0 L N) (hb:∀i,i<N→bZ Z (1+i)=b0 i):Whl Z N L:=by
  have hN:=h.N2;refine⟨fun i hi=>by rw[hb i hi];exact h.sK i hi,?_,⟨N-1,Om,by rw[hb _ Om];exact h.top⟩⟩;rw[←h.sum];grind [bx]
end
def BI (ok:Bool) (t:TypeId) (x:Value):Value:=match ok with
  |true=>.nilIface
  |false=>.iface t x
variable {P:Program} {ρ:aC} {o:Oper} {x:Operand}
theorem BJ {ms:Array (String × TypeId)} {ok:Bool} {T:TypeId} {u:Value} {ty bN:TypeId} (ho:o.op=.binOp .neq ty x (.const .nilIface) bN) (hx:ev ρ x=some (BI ok T u)) (hu:P.underlying ty=some (.interface ms)):aG P ρ o (.bool (!ok)):=by
  cases ok with
  |true=>exact df ho hx hu
  |false=>exact ma ho hx hu
theorem W4 {ms:Array (String × TypeId)} {ok:Bool} {T:TypeId} {u:Value} {ty bN:TypeId} (ho:o.op=.binOp .eql ty x (.const .nilIface) bN) (hx:ev ρ x=some (BI ok T u)) (hu:P.underlying ty=some (.interface ms)):aG P ρ o (.bool ok):=by
  cases ok with
  |true=>exact xg ho hx hu
  |false=>exact zT ho hx hu
theorem K6 {ty:TypeId} {a:Int} (ho:o.op=.unOp .neg ty x) (hx:ev ρ x=some (.int .i16 a)) (h: -32768≤ -a∧ -a≤32767):aG P ρ o (.int .i16 (-a)):=(aiZ ho hx).cast (by rw[IntWalk.i16_in _ h])
def tL (N sl m p u c S B0 B:Nat) (K Q:Nat→Nat):Prop:=Tr N (fun i=>K (1+i)) m p u c S B0 B (fun a=>K (1+sl+a)) (fun i=>Q (1+i)) (fun a=>Q (1+sl+a))
section
variable {N sl m p u c S B0 B:Nat} {K Q:Nat→Nat}
theorem tL.num (h:tL N sl m p u c S B0 B K Q):N-u+c=2*m+p∧u≤N∧c≤m∧p≤2:=Tr.num h
theorem tL.leaf (h:tL N sl m p u c S B0 B K Q) (hN:N≤sl) (hp:p≤1) (hu:0<u) (hc:c=m∨K u≤K (1+sl+c)):tL N sl m (p+1) (u-1) c (S+K u) B0 (K u) K (fun j=>if j=u then m else Q j):=by
  have hn:=h.num;have e:1+(u-1)=u:=Om;have h1:=Tr.leaf h hp hu (by show c=m∨K (1+(u-1))≤_;rw[e];exact hc);simp only[e] at h1;refine h1.congr (fun a ha=>rfl) (fun i h2 h3=>?_) (fun a ha=>?_)
  · grind
  · grind
theorem tL.inner (h:tL N sl m p u c S B0 B K Q) (hN:N≤sl) (hp:p≤1) (uz:c<m) (hc:u=0∨K (1+sl+c)≤K u):tL N sl m (p+1) u (c+1) (S+K (1+sl+c)) B0 (K (1+sl+c)) K (fun j=>if j=1+sl+c then m else Q j):=by
  have hn:=h.num;have h1:=Tr.inner h hp uz (by
    grind)
  refine h1.congr (fun a ha=>rfl) (fun i h2 h3=>?_) (fun a ha=>?_)
  · grind
  · grind
theorem TrC {N m p u c S B0 B:Nat} {C C' CI PL PI:Nat→Nat} (h:Tr N C m p u c S B0 B CI PL PI) (hC:∀i,i<N→C' i=C i):Tr N C' m p u c S B0 B CI PL PI:=by
  have hn:=h.num;have hs:∀n,n≤N→sm C' n=sm C n:=fun n h1=>bx fun i hi=>hC i Om
  constructor
  · exact h.num
  · intro i j a b;rw[hC i Om,hC j b];exact h.mB i j a b
  · exact h.pl
  · exact h.pi
  · exact h.ml
  · exact h.mi
  · exact h.w
  · exact h.bb
  · intro i a b;rw[hC i b];exact h.c1 i a b
  · exact h.c2
  · intro i a;rw[hC i Om];exact h.c3 i a
  · exact h.c4
  · exact h.cs
  · exact h.cm
  · exact h.ti
  · intro i a b d e;rw[hC i b];exact h.g1 i a b d e
  · exact h.g2
  · intro i a b d;rw[hC i b];exact h.q1 i a b d
  · exact h.q2
  · rw[hs u Om,hs N (Nat.le_refl _)];exact h.iQ
theorem tL.node (h:tL N sl m 2 u c S B0 B K Q) {K' Q':Nat→Nat} (hK:∀j,j≠1+sl+m→j≤1+sl+m→K' j=K j) (hKm:K' (1+sl+m)=S) (hN:N≤sl) (hQ:∀j,(u<j∧j≤N)∨(sl<j∧j<1+sl+c)→Q' j=Q j):tL N sl (m+1) 0 u c 0 B B K' Q':=by
  have h1:=Tr.node h;have h2:Tr N (fun i=>K (1+i)) (m+1) 0 u c 0 B B (fun a=>K' (1+sl+a)) (fun i=>Q' (1+i)) (fun a=>Q' (1+sl+a)):=by
    refine h1.congr (fun a ha=>?_) (fun i h2 h3=>hQ _ (.inl ⟨Om,Om⟩)) (fun a ha=>hQ _ (.inr ⟨Om,Om⟩));grind
  have hn:=h.num;exact TrC h2 (fun i hi=>(hK (1+i) Om Om))
theorem tL.begin {N sl:Nat} {K:Nat→Nat} (hs:∀i j,i≤j→j<N→K (1+j)≤K (1+i)) (Q:Nat→Nat):tL N sl 0 0 N 0 0 0 0 K Q:=Tr.begin (C:=fun i=>K (1+i)) (fun i j a b=>hs i j a b) _ _ _
theorem tL.small (h:tL N sl m p u c S B0 B K Q) (h1:c<m):K (1+sl+c)≤sm (fun i=>K (1+i)) N:=by
  have ht:=Tr.iQ h;have h2:=k8 (W:=fun a=>K (1+sl+a)) (show c+1≤m by omega);grind [sm]
theorem tL.pick (h:tL N sl m p u c S B0 B K Q) (hN:N≤sl) (hp:p≤1) (hm:m+1<N) (hb:K 0=2147483648) (hf:∀a,m≤a→a+1<N→K (1+sl+a)=1073741824) (hK:sm (fun i=>K (1+i)) N<1073741824):
    (K u<K (1+sl+c)→1≤u∧tL N sl m (p+1) (u-1) c (S+K u) B0 (K u) K (fun j=>if j=u then m else Q j))∧
    (¬K u<K (1+sl+c)→c<m∧tL N sl m (p+1) u (c+1) (S+K (1+sl+c)) B0 (K (1+sl+c)) K (fun j=>if j=1+sl+c then m else Q j)):=by
  have hn:=h.num;have U2:K (1+sl+c)≤1073741824∨c<m:=by
    grind
  constructor
  · intro eU;have hu:1≤u:=by
      apply Classical.byContradiction;intro hu;have e:u=0:=Om;rw[e,hb] at eU;rcases U2 with h9|h9
      · omega
      · have:=h.small h9;omega
    exact⟨hu,h.leaf hN hp hu (by
      omega)⟩
  · intro wC;have uz:c<m:=by
      apply Classical.byContradiction;intro FC;have e:c=m:=Om;rw[e,hf m (Nat.le_refl _) hm] at wC;by_cases e0:u=0
      · omega
      · have:=ph (W:=fun i=>K (1+i)) (i:=u-1) (n:=N) Om;grind
    refine⟨uz,h.inner hN hp uz ?_⟩;omega
end
def K7 (N sl u c j:Nat):Prop:=(u<j∧j≤N)∨(sl<j∧j<1+sl+c)
structure TW (Z0 Z:List Nat) (N sl m u c B:Nat) (Q:Nat→Nat):Prop where
  tr:tL N sl m 0 u c 0 B B (cZ Z) Q
  kl:∀i,i<N→cZ Z (1+i)=cZ Z0 (1+i)
  par:∀j,K7 N sl u c j→pZ Z j=sl+Q j
  sy:∀i,sZ Z i=sZ Z0 i
section
variable {Z0 Z:List Nat} {N sl m u c B:Nat} {Q:Nat→Nat}
theorem TW.begin {CN:List Nat} (hs:zp CN Z0 sl) (hN:N≤sl):TW Z0 Z0 N sl 0 N 0 0 (fun _=>0):=
  ⟨tL.begin (fun i j a b=>hs.mB i j a Om) _,fun _ _=>rfl,fun j h=>by unfold K7 at h;omega,fun _=>rfl⟩
theorem tL.acu {p S B0:Nat} {K K':Nat→Nat} (h:tL N sl m p u c S B0 B K Q) (h1:∀i,i<N→K' (1+i)=K (1+i)) (h2:∀a,a<m→K' (1+sl+a)=K (1+sl+a)):tL N sl m p u c S B0 B K' Q:=
  TrC (Tr.congr h (fun a ha=>h2 a ha) (fun i _ _=>rfl) (fun a _=>rfl)) h1
theorem TW.cnt (h:TW Z0 Z N sl m u c B Q) {j v:Nat} (hj:j<Z.length) (hv:v<4294967296) (h1:j=0∨1+sl+m≤j) (hN:N≤sl):TW Z0 (Z.set j (CH (Z.getD j 0) v)) N sl m u c B Q:=by
  refine⟨h.tr.acu (fun i hi=>?_) (fun a ha=>?_),fun i hi=>?_,fun i hi=>?_,fun i=>?_⟩
  · grind [Gv]
  · grind [Gv]
  · rw[Gv hj hv,if_neg Om];exact h.kl i hi
  · rw[ajH hj hv];exact h.par i hi
  · rw[ajI hj hv];exact h.sy i
theorem TW.next (h:TW Z0 Z N sl m u c B Q) {k1 k2 u2 c2 B2 v w:Nat} (h2:tL N sl m 2 u2 c2 (cZ Z k1+cZ Z k2) B B2 (cZ Z) (fun j=>if j=k2 then m else if j=k1 then m else Q j)) (hN:N≤sl)
    (hk:∀j,K7 N sl u2 c2 j→j=k1∨j=k2∨K7 N sl u c j) (h3:k1<1+sl+m) (h4:k2<1+sl+m) (hl:1+sl+m<Z.length) (hv:v=cZ Z k1+cZ Z k2) (vx:v<4294967296) (hw:w=sl+m) (Mb:w<65536) {Z1 Z2 Z3:List Nat}
    (hZ1:Z1=Z.set (1+(sl+m)) (CH (Z.getD (1+(sl+m)) 0) v)) (hZ2:Z2=Z1.set k1 (Au (Z1.getD k1 0) w)) (hZ3:Z3=Z2.set k2 (Au (Z2.getD k2 0) w)):
    TW Z0 Z3 N sl (m+1) u2 c2 B2 (fun j=>if j=k2 then m else if j=k1 then m else Q j)∧(∀j,j≠1+sl+m→cZ Z3 j=cZ Z j):=by
  have l1:Z1.length=Z.length:=by rw[hZ1,List.length_set]
  have l2:Z2.length=Z.length:=by rw[hZ2,List.length_set,l1]
  have hc:∀j,cZ Z3 j=if 1+(sl+m)=j then v else cZ Z j:=fun j=>by
    grind [asO,Gv]
  have hp:∀j,pZ Z3 j=if k2=j then w else if k1=j then w else pZ Z j:=fun j=>by
    grind [asP,ajH]
  have hs:∀j,sZ Z3 j=sZ Z j:=fun j=>by
    grind [asQ,ajI]
  refine⟨⟨h2.node (fun j j1 j2=>by rw[hc,if_neg Om]) (by rw[hc,if_pos Om,hv]) hN (fun j _=>rfl),fun i hi=>?_,fun j hj=>?_,fun j=>by rw[hs];exact h.sy j⟩,fun j hj=>by rw[hc,if_neg Om]⟩
  · rw[hc,if_neg Om];exact h.kl i hi
  · rw[hp];show _=sl+(if j=k2 then m else if j=k1 then m else Q j);by_cases e:k2=j
    · grind
    · rw[if_neg e,if_neg (show¬j=k2 from fun q=>e q.symm)];by_cases e2:k1=j
      · grind
      · rw[if_neg e2,if_neg (show¬j=k1 from fun q=>e2 q.symm)];rcases hk j hj with h9|h9|h9
        · omega
        · omega
        · exact h.par j h9
end
def tM (Z0 Z:List Nat):Prop:=∀j,cZ Z j=cZ Z0 j∧pZ Z j=pZ Z0 j∧sZ Z j=sZ Z0 j
theorem tM.WZ (Z:List Nat):tM Z Z:=fun _=>⟨rfl,rfl,rfl⟩
theorem tM.B {Z0 Z:List Nat} (h:tM Z0 Z) {j n:Nat} (hj:j<Z.length) (hn:n<256):tM Z0 (Z.set j (nY (Z.getD j 0) n)):=fun i=>by rw[ajJ hj hn,asR hj hn,ajK hj hn];exact h i
structure Zp (Z:List Nat) (sl m k:Nat) (Q:Nat→Nat):Prop where
  le:∀a,k≤a→a<m→bZ Z (1+sl+a)+a+1≤m
  top:bZ Z (1+sl+(m-1))=0
  U1:∀a,k≤a→a+1<m→bZ Z (1+sl+a)=bZ Z (1+sl+Q (1+sl+a))+1
structure LfD (Z:List Nat) (sl m n:Nat) (Q:Nat→Nat):Prop where
  ind:Zp Z sl m 0 Q
  leaf:∀i,i<n→bZ Z (1+i)=bZ Z (1+sl+Q (1+i))+1
section
variable {Z0 Z:List Nat} {N sl m k n u c B:Nat} {Q:Nat→Nat}
theorem Zp.begin (hj:1+sl+(m-1)<Z.length) (h1:1≤m):Zp (Z.set (1+(sl+(m-1))) (nY (Z.getD (1+(sl+(m-1))) 0) 0)) sl m (m-1) Q:=by
  have e:bZ (Z.set (1+(sl+(m-1))) (nY (Z.getD (1+(sl+(m-1))) 0) 0)) (1+sl+(m-1))=0:=by rw[Gw Om Od,if_pos Om]
  exact⟨fun a h2 h3=>by rw[show a=m-1 by omega,e];omega,e,fun a h2 h3=>Om⟩
theorem Zp.step (h:Zp Z sl m k Q) (hk:1≤k) (hkm:k+1≤m) (hl:1+sl+m≤Z.length) (hQ:k-1<Q (1+sl+(k-1))∧Q (1+sl+(k-1))<m) {w:Nat} (hw:w=bZ Z (1+(sl+Q (1+sl+(k-1))))+1) (Mb:w<256) (hQa:∀a,k≤a→a+1<m→a<Q (1+sl+a)∧Q (1+sl+a)<m):Zp (Z.set (1+(sl+(k-1))) (nY (Z.getD (1+(sl+(k-1))) 0) w)) sl m (k-1) Q:=by
  have hb:∀j,bZ (Z.set (1+(sl+(k-1))) (nY (Z.getD (1+(sl+(k-1))) 0) w)) j=if 1+(sl+(k-1))=j then w else bZ Z j:=fun j=>Gw Om Mb
  have e1:=h.le (Q (1+sl+(k-1))) Om hQ.2;rw[show 1+(sl+Q (1+sl+(k-1)))=1+sl+Q (1+sl+(k-1)) by omega] at hw;refine⟨fun a h1 h2=>?_,?_,fun a h1 h2=>?_⟩
  · rw[hb];split
    · omega
    · exact h.le a Om h2
  · rw[hb,if_neg Om];exact h.top
  · by_cases e:a=k-1
    · grind
    · rw[hb,if_neg Om,hb,if_neg (by have:=hQa a Om h2;omega)];exact h.U1 a Om h2
theorem LfD.step (h:LfD Z sl m n Q) (hN:N≤sl) (hn:n<N) (hl:1+sl+m≤Z.length) {w:Nat} (hw:w=bZ Z (1+(sl+Q (1+n)))+1) (Mb:w<256):LfD (Z.set (1+n) (nY (Z.getD (1+n) 0) w)) sl m (n+1) Q:=by
  have hb:∀j,bZ (Z.set (1+n) (nY (Z.getD (1+n) 0) w)) j=if 1+n=j then w else bZ Z j:=fun j=>Gw Om Mb
  rw[show 1+(sl+Q (1+n))=1+sl+Q (1+n) by omega] at hw;refine⟨⟨fun a h1 h2=>?_,?_,fun a h1 h2=>?_⟩,fun i hi=>?_⟩
  · rw[hb,if_neg Om];exact h.ind.le a h1 h2
  · rw[hb,if_neg Om];exact h.ind.top
  · rw[hb,if_neg Om,hb,if_neg Om];exact h.ind.U1 a h1 h2
  · rw[hb (1+sl+Q (1+i)),if_neg Om,hb];by_cases e:i=n
    · grind
    · rw[if_neg Om];exact h.leaf i Om
theorem acv (h:tL N sl (N-1) 0 0 (N-2) 0 B B (cZ Z0) Q) (hd:LfD Z sl (N-1) N Q) (hN:2≤N∧N≤256) (rG:∀i,i<N→1≤cZ Z0 (1+i)) (hT:sm (fun i=>cZ Z0 (1+i)) N<524288):
    U5 (fun i=>bZ Z (1+i)) (bZ Z (1+(N-1))) N∧bZ Z (1+(N-1))≤40:=by
  have hm:1≤N-1:=Om;have h':Tr N (fun i=>cZ Z0 (1+i)) (N-1) 0 0 (N-1-1) 0 B B (fun a=>cZ Z0 (1+sl+a)) (fun i=>Q (1+i)) (fun a=>Q (1+sl+a)):=by
    rw[show N-1-1=N-2 by omega];exact h
  have hD:Ob N (N-1) (fun i=>Q (1+i)) (fun a=>Q (1+sl+a)) (fun a=>bZ Z (1+sl+a)) (fun i=>bZ Z (1+i)):=⟨hd.ind.top,fun a ha=>hd.ind.U1 a (Nat.zero_le _) ha,fun i hi=>hd.leaf i hi⟩;have OT:∀i j,i≤j→j<N→bZ Z (1+i)≤bZ Z (1+j):=fun i j a b=>hD.mono h' hm a b
  have aCo:=Tr.root h' hm;have hI:∀a,a<N-1→bZ Z (1+sl+a)≤300:=fun a ha=>by have:=hd.ind.le a (Nat.zero_le _) ha;omega
  have hL:∀i,i<N→bZ Z (1+i)≤300:=fun i hi=>by have:=ajM Z (1+i);omega
  have hk:=hD.gf h' hm hL hI;refine⟨⟨hN,OT,fun i hi=>⟨by rw[hd.leaf i hi];omega,OT i (N-1) Om Om⟩,rfl,?_⟩,?_⟩
  · have hl:=hL (N-1) Om;have e:sm (fun i=>2^(300-bZ Z (1+(N-1)))*2^(bZ Z (1+(N-1))-bZ Z (1+i))) N=2^300:=by
      rw[←hk];refine bx fun i hi=>?_
      have:=OT i (N-1) Om Om;rw[←Nat.pow_add];congr 1;omega
    rw[Bs] at e;have e2:2^300=2^(300-bZ Z (1+(N-1)))*2^bZ Z (1+(N-1)):=by rw[←Nat.pow_add];congr 1;omega
    grind
  · have rO:=hD.low h' hm (i:=N-1) Om;have hc:=rG (N-1) Om;have h1:2^(bZ Z (1+(N-1))/2)≤2^(bZ Z (1+(N-1))/2)*cZ Z0 (1+(N-1)):=Nat.le_mul_of_pos_right _ hc;have h2:2^(bZ Z (1+(N-1))/2)<2^19:=by
      omega
    have h3:bZ Z (1+(N-1))/2<19:=by
      apply Classical.byContradiction;intro hn;have:=Nat.pow_le_pow_right (n:=2) Om (show 19≤bZ Z (1+(N-1))/2 by omega);omega
    omega
end
theorem W5 {n:Nat} {s:Nat→Nat} (hr:∀i,i<n→s i<n) (hs:∀x,x<n→∃i,i<n∧s i=x) {i j:Nat} (hi:i<n) (hj:j<n) (e:s i=s j):i=j:=by
  have hc:∀x,∃i,x<n→i<n∧s i=x:=fun x=>by
    grind
  have hg:∀x,x<n→Classical.choose (hc x)<n∧s (Classical.choose (hc x))=x:=fun x hx=>Classical.choose_spec (hc x) hx
  generalize hgd:(fun x=>Classical.choose (hc x))=g at*;have hg':∀x,x<n→g x<n∧s (g x)=x:=fun x hx=>by rw[←hgd];exact hg x hx
  have him:∀i,i<n→∃x,x<n∧g x=i:=fun i hi=>by
    have h1:=Bx (n:=n) (g:=g) (fun x hx=>(hg' x hx).1) (fun x y hx hy h=>by rw[←(hg' x hx).2, ←(hg' y hy).2,h]) (fun z=>if z=i then 1 else 0);rw[xK hi] at h1;obtain⟨x,hx,v9⟩:=JC (W:=fun x=>if g x=i then 1 else 0) (n:=n) (by rw[h1];decide);grind
  obtain⟨x,hx,ex⟩:=him i hi;obtain⟨y,hy,ey⟩:=him j hj;grind
def fC (c:Nat × Nat):List Value:=[.int .u16 ((c.1:Nat):Int),.int .u8 ((c.2:Nat):Int)]
theorem lb (c:Nat × Nat):(fC c).length=2:=rfl
theorem W6 (n:Nat):(List.replicate n ([.int .u16 ((0:Nat):Int),.int .u8 ((0:Nat):Int)]:List Value)).flatten=rows fC (List.replicate n (0,0)):=by
  induction n with
  |zero=>rfl
  |succ n ih=>simp only[List.replicate_succ,List.flatten_cons,rows,List.flatMap_cons] at ih ⊢;rw[ih];rfl
theorem acw {N S sl M mb:Nat} (h1:N≤S) (h2:N≤sl) (h3:N≤256) (h4:2≤sl) (hb:mb=aq S∨mb=aq (sl-1)+1) (hM:mb≤M∨M=11):N≤2^M:=by
  rcases hM with hM|rfl
  · have h5:2^mb≤2^M:=Nat.pow_le_pow_right Om hM;grind [ir]
  · omega
structure fq (CN:List Nat) (T:List (Nat × Nat)) (sl R:Nat):Prop where
  zero:∀x,x<sl→CN.getD x 0=0→(T.getD x (0,0)).2=0
  some:∀x,x<sl→CN.getD x 0≠0→1≤(T.getD x (0,0)).2∧(T.getD x (0,0)).2≤R
  sum:sm (fun x=>if (T.getD x (0,0)).2=0 then 0 else 2^(R-(T.getD x (0,0)).2)) sl=2^R
  top:∃x,x<sl∧(T.getD x (0,0)).2=R
structure Hand (Z:List Nat) (T:List (Nat × Nat)) (sl k:Nat):Prop where
  len:T.length=256
  set:∀i,i<k→(T.getD (sZ Z (1+i)) (0,0)).2=bZ Z (1+i)
  zero:∀x,(∀i,i<k→sZ Z (1+i)≠x)→(T.getD x (0,0)).2=0
theorem qx {T:List (Nat × Nat)} {i j:Nat} {v:Nat × Nat} (h:i<T.length):(T.set i v).getD j (0,0)=if i=j then v else T.getD j (0,0):=by
  grind
theorem Hand.begin (Z:List Nat) (sl:Nat):Hand Z (List.replicate 256 (0,0)) sl 0:=⟨List.length_replicate,fun i h=>Om,fun x _=>by
  rw[List.getD_eq_getElem?_getD,List.getElem?_replicate];split<;>rfl⟩
section
variable {CN Z Z0:List Nat} {T:List (Nat × Nat)} {sl k N R:Nat}
theorem zp.asT (hs:zp CN Z0 sl) {i j:Nat} (hi:i<sl) (hj:j<sl) (e:sZ Z0 (1+i)=sZ Z0 (1+j)):i=j:=
  W5 (s:=fun i=>sZ Z0 (1+i)) (fun i hi=>by obtain⟨x,h1,_,h2⟩:=hs.Bu i hi;show sZ Z0 (1+i)<sl;omega) (fun x hx=>by obtain⟨i,h1,_,h2⟩:=hs.OR x hx;exact⟨i,h1,h2⟩) hi hj e
theorem Hand.step (h:Hand Z T sl k) (hs:zp CN Z0 sl) (hy:∀i,sZ Z i=sZ Z0 i) (hk:k<sl) (kh:sl≤256) {a:Nat}:Hand Z (T.set (sZ Z (1+k)) (a,bZ Z (1+k))) sl (k+1):=by
  have hl:=h.len;obtain⟨x,x1,_,x2⟩:=hs.Bu k hk;have hx:sZ Z (1+k)<256:=ajL _ _;refine⟨by simp[hl],fun i hi=>?_,fun y vc=>?_⟩
  · rw[qx Om];by_cases e:i=k
    · rw[e,if_pos rfl]
    · rw[if_neg (fun e2=>e (by rw[hy,hy] at e2;exact(hs.asT hk Om e2).symm))];exact h.set i Om
  · rw[qx Om,if_neg (vc k Om)];exact h.zero y fun i hi=>vc i Om
theorem Hand.fin (h:Hand Z T sl N) (hs:zp CN Z0 sl) (hc:∀i,i<N→cZ Z0 (1+i)≠0) (hz:∀i,N≤i→i<sl→cZ Z0 (1+i)=0) (hy:∀i,sZ Z i=sZ Z0 i) (hN:N≤sl) (hw:Whl Z N R):fq CN T sl R:=by
  have L6:∀i,i<sl→∃x,x<sl∧sZ Z (1+i)=x∧cZ Z0 (1+i)=CN.getD x 0:=fun i hi=>by
    obtain⟨x,a,b,c⟩:=hs.Bu i hi;grind
  have hon:∀x,x<sl→∃i,i<sl∧sZ Z (1+i)=x∧cZ Z0 (1+i)=CN.getD x 0:=fun x hx=>by
    obtain⟨i,a,b,c⟩:=hs.OR x hx;grind
  have hzero:∀x,x<sl→CN.getD x 0=0→(T.getD x (0,0)).2=0:=fun x hx h0=>h.zero x fun i hi e=>by
    obtain⟨y,a,b,c⟩:=L6 i Om;rw[e] at b;subst b;exact hc i hi (by rw[c,h0])
  have ajQ:∀i,i<N→(T.getD (sZ Z (1+i)) (0,0)).2=bZ Z (1+i):=h.set;refine⟨hzero,fun x hx h0=>?_,?_,?_⟩
  · obtain⟨i,a,b,c⟩:=hon x hx;have hiN:i<N:=by
      grind
    rw[←b,ajQ i hiN];exact hw.sK i hiN
  · have e1:=By (n:=sl) (P:=fun i=>if i<N then 2^(R-bZ Z (1+i)) else 0) (Q:=fun x=>if (T.getD x (0,0)).2=0 then 0 else 2^(R-(T.getD x (0,0)).2)) (s:=fun i=>sZ Z (1+i)) (fun x hx=>by obtain⟨i,a,b,_⟩:=hon x hx;exact⟨i,a,b⟩) (fun i hi=>by
      show(if i<N then 2^(R-bZ Z (1+i)) else 0)=if (T.getD (sZ Z (1+i)) (0,0)).2=0 then 0 else 2^(R-(T.getD (sZ Z (1+i)) (0,0)).2)
      by_cases e:i<N
      · have:=hw.sK i e;grind
      · grind)
    rw[e1, ←hw.sum];have e2:sl=N+(sl-N):=Om;rw[e2,u6];have e3:sm (fun j=>(fun i=>if i<N then 2^(R-bZ Z (1+i)) else 0) (N+j)) (sl-N)=0:=by
      have:sm (fun j=>(fun i=>if i<N then 2^(R-bZ Z (1+i)) else 0) (N+j)) (sl-N)=sm (fun _=>0) (sl-N):=bx fun j hj=>by
        grind
      rw[this,fI,Nat.mul_zero]
    grind [bx]
  · obtain⟨i,hi,he⟩:=hw.top;grind
theorem fq.val (h:fq CN T sl R) {n v:Nat} (hn:n<T.length):fq CN (T.set n (v,(T.getD n (0,0)).2)) sl R:=by
  have e:∀x,((T.set n (v,(T.getD n (0,0)).2)).getD x (0,0)).2=(T.getD x (0,0)).2:=fun x=>by
    grind
  exact⟨fun x hx h0=>by rw[e];exact h.zero x hx h0,fun x hx h0=>by rw[e];exact h.some x hx h0,by simp only[e];exact h.sum,by obtain⟨x,a,b⟩:=h.top;exact⟨x,a,by rw[e];exact b⟩⟩
theorem zp.more (hs:zp CN Z0 sl) {x:Nat} (hx:x<sl) (h0:CN.getD x 0≠0) {r:Nat} (hr:∀i,r<i→i<sl→cZ Z0 (1+i)=0):∃i,i≤r∧i<sl∧sZ Z0 (1+i)=x∧cZ Z0 (1+i)≠0:=by
  obtain⟨i,a,b,c⟩:=hs.OR x hx;grind
theorem zp.pos (hs:zp CN Z0 sl) {r:Nat} (hr:r<sl) (h0:cZ Z0 (1+r)≠0):∀i,i<r+1→1≤cZ Z0 (1+i):=fun i hi=>by
  have:=hs.mB i r Om hr;omega
theorem zp.total (hs:zp CN Z0 sl):sm (fun i=>cZ Z0 (1+i)) sl=sm (oy CN) sl:=by
  refine(By (n:=sl) (P:=fun i=>cZ Z0 (1+i)) (Q:=oy CN) (s:=fun i=>sZ Z0 (1+i)) (fun x hx=>?_) fun i hi=>?_).symm
  · obtain⟨i,a,b,c⟩:=hs.OR x hx;exact⟨i,a,c⟩
  · obtain⟨x,a,b,c⟩:=hs.Bu i hi;show cZ Z0 (1+i)=CN.getD (sZ Z0 (1+i)) 0;rw[c,b]
end
theorem JP {W:Nat→Nat}:∀{n:Nat},(∀i,i<n→1≤W i)→n≤sm W n
  |0,_=>Nat.zero_le _
  |n+1,h=>by
    have:=JP (W:=W) (n:=n) fun i hi=>h i Om
    grind [sm]
section
variable {CN Z0 Z:List Nat} {sl r m u c B:Nat} {Q:Nat→Nat}
theorem zp.back (hs:zp CN Z0 sl) {x:Nat} (hx:x<sl) (h0:CN.getD x 0≠0) (hr:∀i,r<i→i<sl→cZ Z0 (1+i)=0) (hz:cZ Z0 (1+r)=0):1≤r:=by
  obtain⟨i,a,b,c,d⟩:=hs.more hx h0 hr;grind
theorem zp.two (hs:zp CN Z0 sl) {x y:Nat} (hx:x<sl) (hy:y<sl) (DS:x≠y) (h0:CN.getD x 0≠0) (h1:CN.getD y 0≠0) (hr:∀i,r<i→i<sl→cZ Z0 (1+i)=0):1≤r:=by
  obtain⟨i,a,b,c,d⟩:=hs.more hx h0 hr;obtain⟨j,a',b',c',d'⟩:=hs.more hy h1 hr;grind
theorem TW.first (hs:zp CN Z0 sl) (hr:r<sl) (h1:1≤r) (hl:Z0.length=513) (kh:sl≤256) {v:Nat} (hv:v=cZ Z0 (1+r)+cZ Z0 (1+(r-1))) (vx:v<4294967296) {Z1 Z2 Z3:List Nat}
    (hZ1:Z1=Z0.set (1+sl) (CH (Z0.getD (1+sl) 0) v)) (hZ2:Z2=Z1.set (1+r) (Au (Z1.getD (1+r) 0) sl)) (hZ3:Z3=Z2.set (1+(r-1)) (Au (Z2.getD (1+(r-1)) 0) sl)):
    ∃B Q,TW Z0 Z3 (r+1) sl 1 (r-1) 0 B Q:=by
  have hb:=TW.begin (N:=r+1) hs Om;have l1:=hb.tr.leaf Om Om Om (.inl rfl);have l2:=l1.leaf Om Om Om (.inl rfl);have e1:r+1=1+r:=Om;have e2:r+1-1=1+(r-1):=Om;have e3:r+1-1-1=r-1:=Om;rw[e3,e2,e1,Nat.zero_add,Nat.zero_add] at l2;rw[e1] at hb;have hn:=hb.next (k1:=1+r) (k2:=1+(r-1)) l2 Om (fun j hj=>by unfold K7 at hj ⊢;omega) Om Om Om hv vx Om Om hZ1 hZ2 hZ3;grind
def Pk1 (Z:List Nat) (N sl m u c B:Nat) (Q:Nat→Nat) (x u1 c1:Nat):Prop:=
  tL N sl m 1 u1 c1 (cZ Z (x+1)) B (cZ Z (x+1)) (cZ Z) (fun j=>if j=x+1 then m else Q j)∧x+1<1+sl+m∧∀j,K7 N sl u1 c1 j→j=x+1∨K7 N sl u c j
def Pk2 (Z:List Nat) (N sl m u c B:Nat) (Q:Nat→Nat) (x y u2 c2:Nat):Prop:=
  tL N sl m 2 u2 c2 (cZ Z (x+1)+cZ Z (y+1)) B (cZ Z (y+1)) (cZ Z) (fun j=>if j=y+1 then m else if j=x+1 then m else Q j)∧y+1<1+sl+m∧∀j,K7 N sl u2 c2 j→j=x+1∨j=y+1∨K7 N sl u c j
theorem TW.pick {N:Nat} (h:TW Z0 Z N sl m u c B Q) (hN:N≤sl) (hm:m+1<N) (hb:cZ Z 0=2147483648) (hf:∀a,m≤a→a+1<N→cZ Z (1+sl+a)=1073741824) (hK:sm (fun i=>cZ Z (1+i)) N<1073741824):
    (cZ Z u<cZ Z (1+sl+c)→1≤u∧Pk1 Z N sl m u c B Q (u-1) (u-1) c)∧(¬cZ Z u<cZ Z (1+sl+c)→c<m∧Pk1 Z N sl m u c B Q (sl+c) u (c+1)):=by
  have hn:=h.tr.num;obtain⟨p1,p2⟩:=h.tr.pick hN Om hm hb hf hK;refine⟨fun h1=>?_,fun h1=>?_⟩
  · obtain⟨a,b⟩:=p1 h1;rw[Nat.zero_add (cZ Z u)] at b;refine⟨a,?_,Om,fun j hj=>by unfold K7 at hj ⊢;omega⟩;grind
  · obtain⟨a,b⟩:=p2 h1;rw[Nat.zero_add (cZ Z (1+sl+c))] at b;refine⟨a,?_,Om,fun j hj=>by unfold K7 at hj ⊢;omega⟩;grind
theorem Pk1.pick {N x u1 c1:Nat} (h:Pk1 Z N sl m u c B Q x u1 c1) (hN:N≤sl) (hm:m+1<N) (hb:cZ Z 0=2147483648) (hf:∀a,m≤a→a+1<N→cZ Z (1+sl+a)=1073741824) (hK:sm (fun i=>cZ Z (1+i)) N<1073741824):
    (cZ Z u1<cZ Z (1+sl+c1)→1≤u1∧Pk2 Z N sl m u c B Q x (u1-1) (u1-1) c1)∧(¬cZ Z u1<cZ Z (1+sl+c1)→c1<m∧Pk2 Z N sl m u c B Q x (sl+c1) u1 (c1+1)):=by
  obtain⟨h1,h2,h3⟩:=h;have hn:=h1.num;obtain⟨p1,p2⟩:=h1.pick hN Om hm hb hf hK;refine⟨fun h4=>?_,fun h4=>?_⟩
  · obtain⟨a,b⟩:=p1 h4;refine⟨a,?_,Om,fun j hj=>?_⟩
    · grind
    · grind [K7]
  · obtain⟨a,b⟩:=p2 h4;refine⟨a,?_,Om,fun j hj=>?_⟩
    · grind
    · grind [K7]
theorem Pk2.small {N x y u2 c2:Nat} (h:Pk2 Z N sl m u c B Q x y u2 c2):cZ Z (x+1)+cZ Z (y+1)≤sm (fun i=>cZ Z (1+i)) N:=by
  have ht:=Tr.iQ h.1;have hn:=h.1.num;have h2:=k8 (W:=fun a=>cZ Z (1+sl+a)) (show c2≤m by omega);omega
structure TE (Z:List Nat) (sl r B:Nat) (Q:Nat→Nat):Prop where
  tr:tL (r+1) sl r 0 0 (r-1) 0 B B (cZ Z) Q
  qi:∀a,a+1<r→a<Q (1+sl+a)∧Q (1+sl+a)<r
  ql:∀i,i<r+1→Q (1+i)<r
  pi:∀a,a+1<r→pZ Z (1+sl+a)=sl+Q (1+sl+a)
  pl:∀i,i<r+1→pZ Z (1+i)=sl+Q (1+i)
theorem TW.end_ (h:TW Z0 Z (r+1) sl m u c B Q) (hm:m=r) (h1:1≤r) (hr:r<sl):TE Z sl r B Q:=by
  subst hm;obtain⟨e1,e2⟩:=Tr.fin h.tr rfl h1;have e3:c=m-1:=Om;subst e1;subst e3;refine⟨h.tr,fun a ha=>?_,fun i hi=>?_,fun a ha=>h.par _ (.inr ⟨Om,Om⟩),fun i hi=>h.par _ (.inl ⟨Om,Om⟩)⟩
  · have:=Tr.pi h.tr a Om;omega
  · exact(Tr.pl h.tr i (Nat.zero_le _) hi).2 rfl
end
theorem fq.le {CN:List Nat} {T:List (Nat × Nat)} {sl R x:Nat} (h:fq CN T sl R) (hx:x<sl):(T.getD x (0,0)).2≤R:=by
  by_cases e:CN.getD x 0=0
  · rw[h.zero x hx e];exact Nat.zero_le _
  · exact(h.some x hx e).2
theorem OU {V:List Nat} {b k v:Nat} (h:∀i,V.getD i 0≤b) (hk:k<V.length) (hv:v≤b):∀i,(V.set k v).getD i 0≤b:=fun i=>by
  grind [aS]
theorem JQ {V:List Nat} {b k v:Nat} (h:∀i,V.getD i 0≤b) (hk:k<V.length) (hv:v≤b+1):∀i,(V.set k v).getD i 0≤b+1:=OU (fun i=>Nat.le_succ_of_le (h i)) hk hv
theorem wK {W:Nat→Nat} {a n:Nat} (h:a≤n) (hz:∀x,a≤x→x<n→W x=0):sm W n=sm W a:=by
  have e:n=a+(n-a):=Om;rw[e,u6];have:sm (fun j=>W (a+j)) (n-a)=sm (fun _=>0) (n-a):=bx fun j hj=>hz _ Om Om
  rw[this,fI,Nat.mul_zero,Nat.add_zero]
theorem BK {W:Nat→Nat} {i j:Nat} (h:i<j):∀{n:Nat},j<n→W i+W j≤sm W n
  |0,h1=>by omega
  |n+1,h1=>by
    simp only[sm];by_cases e:j=n
    · grind [ph]
    · have:=BK (W:=W) h (n:=n) Om;omega
theorem xS {W:Nat→Nat} {i j n:Nat} (h:i≠j) (hi:i<n) (hj:j<n):W i+W j≤sm W n:=by
  rcases Nat.lt_or_gt_of_ne h with h1|h1
  · grind [BK]
  · grind [BK]
theorem acx {W:Nat→Nat} {a b n z:Nat} (KX:a≠b) (ha:a<n) (hb:b<n) (h1:W a≠0) (h2:W b≠0) (hz:z<n):W z+1≤sm W n:=by
  grind [xS]
structure tO (CN:List Nat) (i iQ mx sy:Nat):Prop where
  acy:iQ=sm (oy CN) i
  mb:∀x,x<i→CN.getD x 0≤mx
  me:mx=0∨∃x,x<i∧CN.getD x 0=mx
  sl:sy≤i
  sz:∀x,sy≤x→x<i→CN.getD x 0=0
  se:sy=0∨CN.getD (sy-1) 0≠0
section
variable {CN C2:List Nat} {i iQ mx sy sh nt nm:Nat}
theorem tO.begin:tO CN 0 0 0 0:=⟨rfl,fun x h=>Om,.inl rfl,Nat.le_refl _,fun x h1 h2=>Om,.inl rfl⟩
theorem tO.step (h:tO CN i iQ mx sy) {mx' sy':Nat} (hm:(mx<CN.getD i 0∧mx'=CN.getD i 0)∨(CN.getD i 0≤mx∧mx'=mx)) (hs:(CN.getD i 0≠0∧sy'=i+1)∨(CN.getD i 0=0∧sy'=sy)):tO CN (i+1) (iQ+CN.getD i 0) mx' sy':=by
  have h1:=h.sl;refine⟨by rw[h.acy];rfl,fun x hx=>?_,?_,Om,fun x h2 h3=>?_,?_⟩
  · by_cases e:x=i
    · rw[e];omega
    · have:=h.mb x Om;omega
  · rcases hm with ⟨a,b⟩|⟨a,b⟩
    · grind
    · rcases h.me with c|⟨x,c,d⟩
      · omega
      · grind
  · by_cases e:x=i
    · rw[e];omega
    · exact h.sz x Om Om
  · rcases hs with ⟨a,b⟩|⟨a,b⟩
    · grind
    · rw[b];exact h.se
theorem tO.below (h:tO CN 256 iQ mx sy) {a b:Nat} (KX:a≠b) (ha:a<256) (hb:b<256) (h1:CN.getD a 0≠0) (h2:CN.getD b 0≠0):mx+1≤iQ∧2≤sy∧a<sy∧b<sy∧2≤iQ:=by
  have ea:a<sy:=by
    apply Classical.byContradiction;intro hn;exact h1 (h.sz a Om ha)
  have eb:b<sy:=by
    apply Classical.byContradiction;intro hn;exact h2 (h.sz b Om hb)
  have hp:=xS (W:=oy CN) KX ha hb;rw[←h.acy] at hp;have e1:oy CN a=CN.getD a 0:=rfl;have e2:oy CN b=CN.getD b 0:=rfl;refine⟨?_,Om,ea,eb,Om⟩;rcases h.me with c|⟨x,c,d⟩
  · omega
  · have:=acx (W:=oy CN) KX ha hb h1 h2 c;rw[←h.acy] at this;grind [oy]
end
theorem Gz {xs:List Nat} {i n:Nat} (h:i<n):(xs.take n).getD i 0=xs.getD i 0:=by simp[List.getD_eq_getElem?_getD,List.getElem?_take,h]
theorem D4:∀xs:List Nat,gf xs=sm (fun i=>if xs.getD i 0=0 then 0 else 2^(11-xs.getD i 0)) xs.length
  |[]=>rfl
  |x::xs=>by
    simp_all [j7,gf,D4]
theorem OV:∀xs:List Nat,nzc xs=sm (fun i=>if xs.getD i 0=0 then 0 else 1) xs.length
  |[]=>rfl
  |x::xs=>by
    simp_all [j7,nzc,OV]
def ik (T:List (Nat × Nat)) (sl:Nat):List Nat:=(List.range 256).map fun x=>if x<sl then (T.getD x (0,0)).2 else 0
theorem fL {T:List (Nat × Nat)} {sl:Nat}:(ik T sl).length=256:=by simp[ik]
theorem ep {T:List (Nat × Nat)} {sl:Nat} (h:sl≤256) (x:Nat):(ik T sl).getD x 0=if x<sl then (T.getD x (0,0)).2 else 0:=by
  by_cases hx:x<256
  · simp_all [ik]
  · grind [fL]
def GA (T:List (Nat × Nat)) (R x:Nat):Nat:=uV R (T.getD x (0,0)).2
section
variable {CN:List Nat} {T:List (Nat × Nat)} {sl R:Nat}
theorem fq.OW (h:fq CN T sl R) (kh:sl≤256):dW (ik T sl) R:=fun x hx=>by
  obtain⟨i,hi,e⟩:=List.mem_iff_getElem.1 hx;have e2:=ep (T:=T) kh i;rw[List.getD_eq_getElem?_getD,List.getElem?_eq_getElem hi,Option.getD_some,e] at e2;rw[e2];split
  · rename_i h2;exact h.le h2
  · omega
theorem fq.whole (h:fq CN T sl R) (kh:sl≤256) (hR:R≤11) {a b:Nat} (KX:a≠b) (ha:a<sl) (hb:b<sl) (U6:CN.getD a 0≠0) (Aw:CN.getD b 0≠0):gE (ik T sl):=by
  refine⟨by rw[fL];exact Nat.le_refl _,fun x hx=>Nat.le_trans (h.OW kh x hx) hR,?_,?_⟩
  · rw[D4,fL,wK (a:=sl) kh fun x h1 h2=>if_pos (by rw[ep kh,if_neg Om])];have e:sm (fun i=>if (ik T sl).getD i 0=0 then 0 else 2^(11-(ik T sl).getD i 0)) sl=sm (fun x=>2^(11-R)*(if (T.getD x (0,0)).2=0 then 0 else 2^(R-(T.getD x (0,0)).2))) sl:=bx fun x hx=>by
      have hl:=h.le hx;rw[ep kh,if_pos hx];split
      · omega
      · rw[←Nat.pow_add,show 11-R+(R-(T.getD x (0,0)).2)=11-(T.getD x (0,0)).2 by omega]
    rw[e,Bs,h.sum, ←Nat.pow_add,show 11-R+R=11 by omega]
  · rw[OV,fL];have h1:=h.some a ha U6;have h2:=h.some b hb Aw;have:=xS (W:=fun i=>if (ik T sl).getD i 0=0 then 0 else 1) (n:=256) KX Om Om;grind [ep]
theorem fq.hw (h:fq CN T sl R) (kh:1≤sl∧sl≤256) (hl:CN.getD (sl-1) 0≠0):HW (ik T sl) R (sl-1):=by
  refine⟨h.OW kh.2,?_,by rw[fL];omega,?_,fun p hp=>?_⟩
  · obtain⟨x,h1,h2⟩:=h.top;exact⟨x,by rw[fL];omega,by rw[ep kh.2,if_pos h1,h2]⟩
  · have:=(h.some (sl-1) Om hl).1;grind [ep]
  · grind [ep]
theorem fq.has (h:fq CN T sl R) (kh:sl≤256) {x:Nat} (hx:x<sl) (h0:CN.getD x 0≠0):1≤(ik T sl).getD x 0∧(ik T sl).getD x 0≤R:=by
  rw[ep kh,if_pos hx];exact h.some x hx h0
theorem OX {X:List Nat} {la:Nat} (kh:sl≤256) (hla:la+1=sl) (hX:la≤X.length) (h:∀x,x<la→X.getD x 0=GA T R x):bI (ik T sl) R la=X.take la:=by
  have h1:=jR (ls:=ik T sl) (L:=R) (last:=la) (by rw[fL];omega);refine tK (by rw[h1,List.length_take];omega) fun i hi=>?_
  rw[h1] at hi;rw[zg (by rw[fL];omega) hi,ep kh,if_pos Om,Gz hi,h i hi]
  rfl
theorem xT (x:Nat):GA T R x≤R:=by unfold GA uV;split<;>omega
end
structure CJ (W:Nat→Nat) (H X:List Nat) (i:Nat):Prop where
  len:H.length=256
  get:∀v,H.getD v 0=sm (fun x=>if W x=v then 1 else 0) i
  xl:X.length=256
  xb:Bytes X
  xe:∀x,x<i→X.getD x 0=W x
theorem OY {W:Nat→Nat} {v:Nat}:∀{i:Nat},sm (fun x=>if W x=v then 1 else 0) i≤i
  |0=>Nat.le_refl _
  |i+1=>by
    have:=OY (W:=W) (v:=v) (i:=i);grind [sm]
section
variable {W:Nat→Nat} {H X:List Nat} {i:Nat}
theorem CJ.begin (hx:X.length=256) (hb:Bytes X):CJ W (List.replicate 256 0) X 0:=⟨List.length_replicate,fun v=>by
  rw[List.getD_eq_getElem?_getD,List.getElem?_replicate];split<;>rfl,hx,hb,fun x h=>Om⟩
theorem CJ.step (h:CJ W H X i) (hi:i<256) (hw:W i<256):CJ W (H.set (W i) (H.getD (W i) 0+1)) (X.set i (W i)) (i+1):=by
  have hl:=h.len;have hx:=h.xl;refine⟨by simp[hl],fun v=>?_,by simp[hx],fun x y5=>?_,fun x y5=>?_⟩
  · rw[aS Om];simp only[sm];split
    · rename_i e;subst e;rw[h.get]
    · rw[h.get];rfl
  · rcases List.mem_or_eq_of_mem_set y5 with a|a
    · exact h.xb x a
    · omega
  · rw[aS Om];split
    · grind
    · exact h.xe x Om
theorem CJ.le (h:CJ W H X i) (v:Nat):H.getD v 0≤i:=by rw[h.get];exact OY
theorem CJ.ge (h:CJ W H X i) {x:Nat} (hx:x<i):1≤H.getD (W x) 0:=by
  rw[h.get];grind [ph]
theorem CJ.ex (h:CJ W H X i) {v:Nat} (hv:H.getD v 0≠0):∃x,x<i∧W x=v:=by
  rw[h.get] at hv;grind [JC]
theorem D5 {n:Nat}:∀{i:Nat},(∀x,x<i→W x<n)→sm (fun v=>sm (fun x=>if W x=v then 1 else 0) i) n=i
  |0,_=>by
    have:=fI (k:=0) (n:=n);rw[Nat.mul_zero] at this;exact this
  |i+1,h=>by
    have h1:=D5 (n:=n) (i:=i) fun x hx=>h x Om
    have h2:=xK (v:=W i) (n:=n) (h i Om);have e:sm (fun v=>sm (fun x=>if W x=v then 1 else 0) (i+1)) n=sm (fun v=>sm (fun x=>if W x=v then 1 else 0) i+(if v=W i then 1 else 0)) n:=bx fun v _=>by
      grind [sm]
    grind [wI]
theorem CJ.sum (h:CJ W H X i) {n:Nat} (hw:∀x,x<i→W x<n):sm (oy H) n=i:=by
  rw[←D5 (W:=W) (n:=n) hw];exact bx fun v _=>h.get v
end
structure Mc (H:List Nat) (i mx mc:Nat):Prop where
  mi:mx≤i
  mb:∀j,j<i→H.getD j 0≤mc
  me:mc=0∨∃j,H.getD j 0=mc
  z:∀j,mx<j→j<i→H.getD j 0=0
  nz:(mx=0∧∀j,j<i→H.getD j 0=0)∨(mx<i∧H.getD mx 0≠0)
section
variable {W:Nat→Nat} {H X:List Nat} {i mx mc la:Nat}
theorem Mc.begin:Mc H 0 0 0:=⟨Nat.le_refl _,fun j h=>Om,.inl rfl,fun j _ h=>Om,.inl ⟨rfl,fun j h=>Om⟩⟩
theorem Mc.zero (h:Mc H i mx mc) (h0:H.getD i 0=0):Mc H (i+1) mx mc:=by
  have hm:=h.mi;refine⟨Om,fun j hj=>?_,h.me,fun j h1 h2=>?_,?_⟩
  · by_cases e:j=i
    · grind
    · exact h.mb j Om
  · by_cases e:j=i
    · rw[e,h0]
    · exact h.z j h1 Om
  · rcases h.nz with ⟨a,b⟩|⟨a,b⟩
    · grind
    · omega
theorem Mc.step (h:Mc H i mx mc) (h0:H.getD i 0≠0) {mc':Nat} (hm:(mc<H.getD i 0∧mc'=H.getD i 0)∨(H.getD i 0≤mc∧mc'=mc)):Mc H (i+1) i mc':=by
  refine⟨Om,fun j hj=>?_,?_,fun j h1 h2=>Om,.inr ⟨Om,h0⟩⟩
  · by_cases e:j=i
    · rw[e];omega
    · have:=h.mb j Om;omega
  · rcases hm with ⟨a,b⟩|⟨a,b⟩
    · grind
    · rw[b];exact h.me
theorem Mc.fin (h:Mc H 16 mx mc) (hs:CJ W H X la) (hw:∀x,W x≤11) (hla:1≤la):
    (1≤mc∧mc≤la)∧mx≤11∧sm (oy H) (mx+1)=la∧(∀j,H.getD j 0≤mc)∧H.getD mx 0≠0∧(∀s ∈ X.take la,s<mx+1∧H.getD s 0≠0):=by
  have g0:=hs.ge (x:=0) hla;have Zt:=hw 0;have hb:=h.mb (W 0) Om;have Zu:mx<16∧H.getD mx 0≠0:=by
    rcases h.nz with ⟨a,b⟩|h9
    · grind
    · exact h9
  have hz:∀v,v>11→H.getD v 0=0:=fun v hv=>Classical.byContradiction fun e=>by
    obtain⟨x,_,h2⟩:=hs.ex e;grind
  have vN:mx≤11:=Classical.byContradiction fun e=>Zu.2 (hz mx Om)
  have hwm:∀x,x<la→W x<mx+1:=fun x hx=>Classical.byContradiction fun e=>by
    have a:=hs.ge hx;have b:=h.z (W x) Om (by have:=hw x;omega);omega
  refine⟨⟨Om,?_⟩,vN,hs.sum hwm,fun j=>?_,Zu.2,fun s FL=>?_⟩
  · rcases h.me with e|⟨j,e⟩
    · omega
    · rw[←e];exact hs.le j
  · by_cases e:j<16
    · exact h.mb j e
    · grind
  · have hxl:=hs.xl;obtain⟨k,hk,e⟩:=List.mem_iff_getElem.1 FL;have uw:k<la:=by rw[List.length_take] at hk;omega
    have e2:s=W k:=by
      rw[←hs.xe k uw, ←e];grind
    rw[e2];exact⟨hwm k uw,by have:=hs.ge uw;omega⟩
end
theorem JR:∀(xs:List Nat) (a b:Nat),xs.length%2=0→nib (xs++[a,b])=nib xs++[a*16+b]
  |[],a,b,_=>rfl
  |[x],a,b,h=>by simp at h
  |x::y::r,a,b,h=>by
    simp only[List.cons_append,nib];rw[JR r a b (by simp only[List.length_cons] at h;omega)]
theorem JS:∀(xs:List Nat),xs.length%2=1→nib (xs++[0])=nib xs
  |[],h=>by simp at h
  |[x],h=>by simp[nib]
  |x::y::r,h=>by
    simp only[List.cons_append,nib];rw[JS r (by simp only[List.length_cons] at h;omega)]
theorem D' {W P:List Nat} {i n:Nat} (hP:P=[n]++nib (W.take i)) (hi:i+1<W.length) (h:i%2=0):P++[W.getD i 0*16+W.getD (i+1) 0]=[n]++nib (W.take (i+2)):=by
  grind [iK,nib,JR]
theorem OZ {W P:List Nat} {i n la:Nat} (hP:P=[n]++nib (W.take i)) (hi:la≤i∧i≤la+1) (h:i%2=0) (hl:la<W.length) (h0:W.getD la 0=0):P=[n]++nib (W.take la):=by
  rcases Nat.lt_or_eq_of_le hi.1 with h1|h1
  · have e:i=la+1:=Om;grind [iK,JS]
  · rw[hP,h1]
structure U7 (BW:List Nat) (R n:Nat):Prop where
  len:BW.length=12
  get:∀x,1≤x→x<n→BW.getD x 0=R+1-x
  z:BW.getD 0 0=0
theorem U7.begin {R:Nat}:U7 (List.replicate 12 0) R 1:=⟨List.length_replicate,fun x h1 h2=>Om,rfl⟩
theorem U7.step {BW:List Nat} {R n:Nat} (h:U7 BW R n) (h1:1≤n) (hn:n<12):U7 (BW.set n (R+1-n)) R (n+1):=by
  have hl:=h.len;refine⟨by simp[hl],fun x a b=>?_,?_⟩
  · rw[aS Om];split
    · omega
    · exact h.get x a Om
  · rw[aS Om,if_neg Om];exact h.z
theorem U7.w {BW:List Nat} {R n x:Nat} (h:U7 BW R n) (hn:n=R+1) (hx:x≤R):BW.getD x 0=uV R x:=by
  unfold uV;split
  · rename_i e;rw[e];exact h.z
  · exact h.get x Om Om
theorem K8 {X:List Nat} {la v:Nat}:(X.set la v).take la=X.take la:=by rw[List.take_set,List.set_eq_of_length_le (by rw[List.length_take];omega)]
theorem O0 {n i:Nat}:(List.replicate n 0).set i 0=List.replicate n 0:=by
  simp_all
theorem Zv {x:Nat} (h:x<128):128|||x=127+(x+1):=by
  have:=Nat.two_pow_add_eq_or_of_lt (i:=7) (b:=x) h 1;grind
theorem w15 {BW:List Nat} {T:List (Nat × Nat)} {R x:Nat} (h:U7 BW R (R+1)) (hR:R≤11) (hx:(T.getD x (0,0)).2≤R):BW.getD (T.getD x (0,0)).2 0%16=GA T R x:=by
  rw[h.w rfl hx];grind [xT,GA]
theorem asU {T:List (Nat × Nat)} {X Y:List Nat} {sl R:Nat} {ok:Bool} (hk:ok=true) (h:ok=true→∃L P,fz L P (X.take (sl-1)) Y∧2≤Y.length∧(5≤sl-1→L=5)) (kh:2≤sl∧sl≤256) (hX:X.length=256) (hW:∀x,x<sl-1→X.getD x 0=GA T R x) (hl:Y.length<sl/2):ku (bI (ik T sl) R (sl-1)) ([Y.length]++Y):=by
  obtain⟨L,P,h1,h2,h3⟩:=h hk;have e:=h3 Om;subst e;rw[OX kh.2 Om Om hW];exact .inr ⟨P,Y,h1,Om,rfl⟩
theorem ajR {T:List (Nat × Nat)} {X P:List Nat} {sl R n:Nat} (hP:P=[127+(sl-1)]++nib ((X.set (sl-1) 0).take n)) (hn:sl-1≤n∧n≤sl-1+1) (h2:n%2=0) (kh:2≤sl∧sl≤129) (hX:X.length=256) (hW:∀x,x<sl-1→X.getD x 0=GA T R x):ku (bI (ik T sl) R (sl-1)) P:=by
  have h:=OZ hP hn h2 Oz (by rw[aS Om,if_pos rfl]);rw[K8] at h;rw[OX Om Om Om hW];refine .inl ⟨by rw[List.length_take];omega,?_⟩;grind
theorem CJ.x3 {T:List (Nat × Nat)} {R la:Nat} {H X:List Nat} (h:CJ (GA T R) H X la) (hR:R≤11) (hl:la<256):∀x,x≤la→(X.set la 0).getD x 0≤11:=fun x hx=>by
  rw[aS (by rw[h.xl];omega)];split
  · omega
  · rw[h.xe x Om];exact Nat.le_trans (xT x) hR
theorem O3 {b:Nat}:∀ls:List Nat,ls.count b=sm (fun x=>if ls.getD x 0=b then 1 else 0) ls.length
  |[]=>rfl
  |x::ls=>by
    rw[List.length_cons,j7,List.count_cons,O3 ls];grind
structure Cb (Z P:List Nat) (x:Nat):Prop where
  len:P.length=12
  get:∀b,b<12→P.getD b 0=sm (fun i=>if bZ Z (1+i)=b then 1 else 0) x
theorem Cb.begin {Z:List Nat}:Cb Z (List.replicate 12 0) 0:=⟨List.length_replicate,fun b _=>by rw[mF];rfl⟩
theorem Cb.step {Z P:List Nat} {x b:Nat} (h:Cb Z P x) (hb:b=bZ Z (1+x)) (nU:b<12):Cb Z (P.set b (P.getD b 0+1)) (x+1):=by
  have hl:=h.len;refine⟨by simp[hl],fun c hc=>?_⟩;rw[aS Om];simp only[sm];split
  · rename_i e;subst e;rw[h.get b nU,if_pos hb.symm]
  · rename_i e;rw[h.get c hc,if_neg Om];rfl
def vst (c:Nat→Nat) (R:Nat):Nat→Nat
  |0=>0
  |d+1=>(vst c R d+c (R-d))/2
structure Vr (c:Nat→Nat) (V:List Nat) (R nq mn:Nat):Prop where
  len:V.length=16
  le:nq≤R
  mnE:mn=vst c R (R-nq)
  get:∀k,nq<k→k≤R→V.getD k 0=vst c R (R-k)
theorem Vr.begin {c:Nat→Nat} {R:Nat}:Vr c (List.replicate 16 0) R R 0:=⟨List.length_replicate,Nat.le_refl _,by rw[Nat.sub_self];rfl,fun k h1 h2=>Om⟩
theorem Vr.step {c:Nat→Nat} {V:List Nat} {R nq mn n:Nat} (h:Vr c V R nq mn) (h1:1≤nq) (hR:R≤11) (hn:n=c nq):Vr c (V.set nq mn) R (nq-1) ((mn+n)/2):=by
  have hl:=h.len;have hle:=h.le;refine⟨by simp[hl],Om,?_,fun k h2 h3=>?_⟩
  · rw[show R-(nq-1)=(R-nq)+1 by omega,vst,show R-(R-nq)=nq by omega,h.mnE,hn]
  · rw[aS Om];split
    · rename_i e;rw[h.mnE,e]
    · exact h.get k Om h3
theorem JT {ls:List Nat} {R:Nat} {c:Nat→Nat} (hl:dW ls R) (hR:R≤11) (hc:∀b,1≤b→b≤R→ls.count b=c b):∀d,d≤R→vst c R d=CF ls (R-d)
  |0,_=>by rw[Nat.sub_zero,wH hl hR];rfl
  |d+1,h=>by
    rw[vst,JT hl hR hc d Om,show R-(d+1)=(R-d)-1 by omega,xr ls (m:=R-d) Om Om,hc (R-d) Om Om]
section
variable {CN Z Z0:List Nat} {T:List (Nat × Nat)} {sl N R:Nat}
theorem Hand.count (h:Hand Z T sl N) (hs:zp CN Z0 sl) (hL:fq CN T sl R) (hz:∀i,N≤i→i<sl→cZ Z0 (1+i)=0) (hy:∀i,sZ Z i=sZ Z0 i) (hN:N≤sl) (kh:sl≤256) {b:Nat} (hb:1≤b):(ik T sl).count b=sm (fun i=>if bZ Z (1+i)=b then 1 else 0) N:=by
  rw[O3,fL,wK (a:=sl) kh fun x h1 h2=>if_neg (by rw[ep kh,if_neg Om];omega)];have e1:sm (fun x=>if (ik T sl).getD x 0=b then 1 else 0) sl=sm (fun x=>if (T.getD x (0,0)).2=b then 1 else 0) sl:=bx fun x hx=>by rw[ep kh,if_pos hx]
  rw[e1];have e2:=By (n:=sl) (P:=fun i=>if i<N then (if bZ Z (1+i)=b then 1 else 0) else 0) (Q:=fun x=>if (T.getD x (0,0)).2=b then 1 else 0) (s:=fun i=>sZ Z (1+i)) (fun x hx=>by
    obtain⟨i,a,_,d⟩:=hs.OR x hx;exact⟨i,a,by rw[hy];exact d⟩) (fun i hi=>by
    show(if i<N then (if bZ Z (1+i)=b then 1 else 0) else 0)=if (T.getD (sZ Z (1+i)) (0,0)).2=b then 1 else 0
    by_cases e:i<N
    · rw[if_pos e,h.set i e]
    · obtain⟨y,a,d,f⟩:=hs.Bu i hi;rw[if_neg e,if_neg];rw[hy,f,hL.zero y a (by rw[←d];exact hz i Om hi)];omega)
  rw[e2,wK (a:=N) hN fun x h1 h2=>if_neg Om];grind [bx]
end
structure Vx (ls:List Nat) (T:List (Nat × Nat)) (V:List Nat) (sl R x:Nat):Prop where
  asV:T.length=256
  asW:V.length=16
  ln:∀y,y<sl→(T.getD y (0,0)).2=ls.getD y 0
  v:∀k,1≤k→k≤R→V.getD k 0=CF ls k+(ls.take x).count k
  t:∀y,y<x→1≤ls.getD y 0→(T.getD y (0,0)).1=kf ls y
section
variable {ls V:List Nat} {T:List (Nat × Nat)} {sl R x:Nat}
theorem Vx.step (h:Vx ls T V sl R x) (hx:x<sl) (kh:sl≤256) (Zw:ls.length=256) (hR:R≤11) (hl:ls.getD x 0≤R):Vx ls (T.set x (V.getD ((T.getD x (0,0)).2%16) 0,(T.getD x (0,0)).2)) (V.set ((T.getD x (0,0)).2%16) (V.getD ((T.getD x (0,0)).2%16) 0+1)) sl R (x+1):=by
  have hT:=h.asV;have hV:=h.asW;have e:=h.ln x hx;have e16:(T.getD x (0,0)).2%16=ls.getD x 0:=by rw[e];exact Nat.mod_eq_of_lt Om
  rw[e16];refine⟨by simp[hT],by simp[hV],fun y hy=>?_,fun k h1 h2=>?_,fun y hy vO=>?_⟩
  · rw[qx Om];split
    · grind
    · exact h.ln y hy
  · rw[aS Om,iu Om];by_cases e2:ls.getD x 0=k
    · rw[if_pos e2,if_pos e2,e2,h.v k h1 h2];omega
    · rw[if_neg e2,if_neg e2,h.v k h1 h2];rfl
  · rw[qx Om];by_cases e2:x=y
    · subst e2;rw[if_pos rfl];exact h.v _ vO hl
    · rw[if_neg e2];exact h.t y Om vO
theorem Vx.fin (h:Vx ls T V sl R sl) {T0:List (Nat × Nat)} (Zw:ls=ik T0 sl) (kh:sl≤256):ik T sl=ls∧∀y,y<sl→1≤(T.getD y (0,0)).2→(T.getD y (0,0)).1=kf (ik T sl) y:=by
  have e:ik T sl=ls:=by
    rw[Zw];refine tK (by rw[fL,fL]) fun y hy=>?_
    rw[ep kh,ep kh];split
    · rename_i h2;have:=h.ln y h2;grind [ep]
    · rfl
  refine⟨e,fun y hy h1=>?_⟩;rw[e];exact h.t y hy (by rw[←h.ln y hy];exact h1)
end
theorem Vx.begin {ls V:List Nat} {T:List (Nat × Nat)} {sl R:Nat} {c:Nat→Nat} {m:Nat} (hV:Vr c V R 0 m) (hT:T.length=256) (Zw:ls=ik T sl) (kh:sl≤256) (hl:dW ls R) (hR:R≤11) (hc:∀b,1≤b→b≤R→ls.count b=c b):Vx ls T V sl R 0:=
  ⟨hT,hV.len,fun y hy=>by rw[Zw,ep kh,if_pos hy],fun k h1 h2=>by rw[hV.get k Om h2,JT hl hR hc (R-k) Om,show R-(R-k)=k by omega,List.take_zero];rfl,fun y hy=>Om⟩
def JU (T:List (Nat × Nat)) (sl:Nat):Prop:=∀y,y<sl→1≤(T.getD y (0,0)).2→(T.getD y (0,0)).1=kf (ik T sl) y
section
variable {P:Program} {K:Kx} {Q:Exit→Act→World→Prop} {ρ:aC} {l r:List au} {o:Oper} {x y:Operand} {t n m cap q d sz e:Nat} {k:IntKind}
end
section
variable {P:Program} {fn:Func} {dx:Value→List au→Prop} {l0 l r:List au} {w0:World} {n:Nat} {p rest:List au} {ρ:aC}
theorem Zz {a ty sz q:Nat} {sg:au} {vs:List Value} (is:List Nat) (i j:Nat) (uL:fn.results= #[.cell a ty]) (hva:look a ρ=some (.pointer (some ⟨sg.b,q,none⟩))) (hs:nthS i l=some sg) (hP:l9 P ty=some true) (hz:eV P ty=some sz) (hq:q=sg.o+j) (hv:(sg.cs.drop j).take sz=vs) (hn:vs.length=sz) (hp:pickS is l=some (p,rest)) (hPo:dx (.agg vs.toArray) p):
    GQ ⟨n,l0,w0⟩ (bodyPost P fn (Ends dx l0 r w0)) .ret ρ l r:=
  fun ac w ha=>⟨ha.defers,_,by
    have jz:=ha.st.hl sg (dw _ _ _ hs);have e:=Bk (P:=P) (w:=w) (b:=sg.b) (q:=q) (vs:=vs) hP (by rw[hz,hn]) (fun i hi=>by
      subst hq;rw[show sg.o+j+i=sg.o+(j+i) by omega];exact jz.1 (j+i) _ (xd hv hn Om))
    simp[results,uL,ha.fr _ _ hva,asAddr,e],mZ (ha.pick is hp) hPo⟩
end
theorem K9 {n:Nat} (h:n<64):(n&&&18446744073709551608)&&&63=8*(n/8):=by
  have:∀m:Fin 64,(m.val&&&18446744073709551608)&&&63=8*(m.val/8):=Od;exact this ⟨n,h⟩
theorem rR {x y k b:Nat} (h:x<2^k) (h2:y<2^b):x+y*2^k<2^(k+b):=by
  have:(y+1)*2^k≤2^b*2^k:=Nat.mul_le_mul_right _ h2;grind
theorem W7 {cs:List Value} {j:Nat} (h:j<cs.length):cs[j]? =some (cs.getD j undef):=by simp[List.getD_eq_getElem?_getD,h]
def xU (cs:List Value) (k v:Nat):List Value:=((((((((cs.set (k+0) (.int .u8 ((v%256:Nat):Int))).set (k+1) (.int .u8 ((v/2^8%256:Nat):Int))).set (k+2) (.int .u8 ((v/2^16%256:Nat):Int))).set (k+3) (.int .u8 ((v/2^24%256:Nat):Int))).set (k+4) (.int .u8 ((v/2^32%256:Nat):Int))).set (k+5) (.int .u8 ((v/2^40%256:Nat):Int))).set (k+6) (.int .u8 ((v/2^48%256:Nat):Int))).set (k+7) (.int .u8 ((v/2^56%256:Nat):Int)))
theorem Ea (cs:List Value) (k v:Nat):(xU cs k v).length=cs.length:=by simp[xU]
theorem O4 (v:Nat):bK v 8=[v%256,v/2^8%256,v/2^16%256,v/2^24%256,v/2^32%256,v/2^40%256,v/2^48%256,v/2^56%256]:=by simp[bK,List.range_succ]
theorem O5 {cs:List Value} {k v:Nat} (h:k+8≤cs.length) {i:Nat}:(xU cs k v)[i]? =if i<k then cs[i]? else if i<k+8 then (aa .u8 (bK v 8))[i-k]? else cs[i]? :=by
  by_cases h1:i<k
  · rw[if_pos h1];simp only[xU,List.getElem?_set];grind
  · rw[if_neg h1];by_cases h2:i<k+8
    · rw[if_pos h2,O4];obtain⟨d,rfl⟩:∃d,i=k+d:=⟨i-k,Om⟩;have hd:d<8:=Om;rw[Nat.add_sub_cancel_left];have:d=0∨d=1∨d=2∨d=3∨d=4∨d=5∨d=6∨d=7:=Om;rcases this with rfl|rfl|rfl|rfl|rfl|rfl|rfl|rfl<;>simp[xU,List.getElem?_set,aa]<;>omega
    · rw[if_neg h2];simp only[xU,List.getElem?_set];grind
theorem Eb (v:Nat) {j n:Nat} (h:j≤n):(bK v n).take j=bK v j:=by
  unfold bK;rw[←List.map_take,List.take_range,Nat.min_eq_left h]
theorem La {cs:List Value} {P:List Nat} {k v j:Nat} (h:k+8≤cs.length) (hp:cs.take k=aa .u8 P) (hj:j≤8):(xU cs k v).take (k+j)=aa .u8 (P++bK v j):=by
  rw[lA, ←hp, ←Eb v hj];apply List.ext_getElem?;grind [O5,aa,bQ,dC]
structure ra (CN:List Nat) (ls:List Nat) (R la:Nat) (ys:List Nat):Prop where
  len:ls.length=256
  hw:HW ls R la
  wh:gE ls
  R11:R≤11
  has:∀x,x<256→CN.getD x 0≠0→1≤ls.getD x 0
  tw:ku (bI ls R la) ys
theorem ku.bytes {ws ys:List Nat} (h:ku ws ys) (hw:dW ws 15) (h1:1≤ws.length):Bytes ys:=by
  rcases h with ⟨a,b⟩|⟨cs,b,a,c,d⟩
  · rw[b];intro x hx;rcases List.mem_append.1 hx with e|e
    · grind
    · exact zZ ws hw x e
  · rw[d];intro x hx;rcases List.mem_append.1 hx with e|e
    · grind
    · exact a.bytes x e
theorem ku.size {ws ys:List Nat} (h:ku ws ys):ys.length≤128:=by
  rcases h with ⟨a,b⟩|⟨cs,b,a,c,d⟩
  · grind [rJ]
  · grind
section
variable {CN ls ys T:List Nat} {R la:Nat}
theorem ra.bytes (h:ra CN ls R la ys):Bytes ys:=by
  have hl:=h.hw.lt;have h1:=h.hw.JH h.wh;refine h.tw.bytes (fun x hx=>Nat.le_trans ((tj:dW (bI ls R la) R) x hx) (by have:=h.R11;omega)) ?_;grind [jR]
end
theorem fq.tab {CN:List Nat} {T:List (Nat × Nat)} {sl R:Nat} {ys:List Nat} (h:fq CN T sl R) (kh:2≤sl∧sl≤256) (hz:∀x,sl≤x→x<256→CN.getD x 0=0) (hl:CN.getD (sl-1) 0≠0) (hR:R≤11) {a b:Nat} (KX:a≠b) (ha:a<256) (hb:b<256) (U6:CN.getD a 0≠0) (Aw:CN.getD b 0≠0)
    (ht:ku (bI (ik T sl) R (sl-1)) ys):ra CN (ik T sl) R (sl-1) ys:=by
  have eU:∀x,x<256→CN.getD x 0≠0→x<sl:=fun x hx h0=>Classical.byContradiction fun hn=>h0 (hz x Om hx)
  exact⟨fL,h.hw Om hl,h.whole kh.2 hR KX (eU a ha U6) (eU b hb Aw) U6 Aw,hR,fun x hx h0=>(h.has kh.2 (eU x hx h0) h0).1,ht⟩
def aCp (p:Bool) (ls ys:List Nat):Prop:=match p with
  |false=>aje ls ys
  |true=>ajf ls ys
def Pa (f:Bool) (ls t ys:List Nat):Prop:=match f with
  |false=>gS ls∧(∀c ∈ t,c<ls.length∧1≤ls.getD c 0∧ls.getD c 0≤11)∧Bytes ys∧ys.length=tN (lv ls) t/8+1∧tailV ys 0 (tN (lv ls) t/8+1)=2^tN (lv ls) t+bitsV (codeBits ls t)
  |true=>∃Y:List (List Nat),Y.length=4∧(∀j,j<4→F5 ls (vE t ((t.length+3)/4) j) (Y.getD j []))∧ys=mr (Y.take 3)++Y.flatten
theorem Ec {ls:List Nat}:∀t:List Nat,(∀c ∈ t,ls.getD c 0≤11)→tN (lv ls) t≤11*t.length
  |[],_=>by simp[tN]
  |c::t,h=>by
    have h1:=Ec t (fun x hx=>h x (List.mem_cons_of_mem _ hx));grind [tN,lv]
theorem Pa.four {ls t ys:List Nat} (h:Pa true ls t ys) (h6:3*((t.length+3)/4)<t.length):∃bJ bU cc cT,Gg ys t ls ((t.length+3)/4) (t.length-3*((t.length+3)/4)) bJ bU cc cT∧ys.length≤1048576:=by
  obtain⟨Y,h1,h2,h3⟩:=h;obtain⟨a,b,c,d,hF⟩:=Gg.of (xs:=ys) (t:=t) (m3:=t.length-3*((t.length+3)/4)) h1 h2 h3 Om Om;refine⟨a,b,c,d,hF,?_⟩;have e:=Af h1;have p0:=(h2 0 Om).len;have p1:=(h2 1 Om).len;have p2:=(h2 2 Om).len;have p3:=(h2 3 Om).len;rw[h3,e];have hh:(mr ([Y.getD 0 [],Y.getD 1 [],Y.getD 2 [],Y.getD 3 []].take 3)).length=6:=rfl;grind
theorem W8 {ls:List Nat} {L last c:Nat} (h:HW ls L last) (hw:gE ls) (hc:1≤ls.getD c 0):c<256∧kf ls c<2^ls.getD c 0:=by
  have ht:=(N4 (r:=(List.range 16).map (startW (kI ls L last))) (dt:=List.replicate 2048 0) h hw hw.even Oi (fun w h1 h2=>by
    have hL:=h.L11 hw;rw[List.getD_eq_getElem?_getD,List.getElem?_map,List.getElem?_range Om];rfl) List.length_replicate).1
  have:=ht.one c hc;exact⟨this.1,this.2.2.2⟩
structure JV (ls text:List Nat):Prop where
  len:∀c ∈ text,1≤ls.getD c 0∧ls.getD c 0≤11
  lt:∀c ∈ text,kf ls c<2^ls.getD c 0
def vP (ls text P:List Nat) (C nb i:Nat):Prop:=mD P C nb (tN (lv ls) (text.drop i)) (bitsV (codeBits ls (text.drop i)))
section
variable {ls text P:List Nat} {C nb i:Nat}
theorem vP.begin:vP ls text [] 0 0 text.length:=by
  unfold vP;rw[List.drop_length];exact mD.begin rfl rfl
theorem GB {c:Nat} {t:List Nat} (h:kf ls c<2^ls.getD c 0):bitsV (codeBits ls (c::t))=bitsV (codeBits ls t)+kf ls c*2^tN (lv ls) t:=by
  rw[codeBits,na,oU,kg,Nat.mod_eq_of_lt h,Nat.add_comm]
theorem vP.step (h:vP ls text P C nb (i+1)) (hc:JV ls text) (hi:i<text.length) {c x b:Nat} (ec:c=text.getD i 0) (ex:x=kf ls c) (eb:b=ls.getD c 0) (hb:nb+b≤63):vP ls text P (C+x*2^nb) (nb+b) i:=by
  have hm:c ∈ text:=by rw[ec];exact ij hi
  have h1:=hc.lt c hm;grind [mD.add,vP,qh,GB,mD,lv,tN]
theorem vP.flush (h:vP ls text P C nb i) {k:Nat} (hk:8*k≤nb):vP ls text (P++bK C k) (C/2^(8*k)) (nb-8*k) i:=mD.flush h hk
theorem vP.bound (h:vP ls text P C nb i) (hc:JV ls text):8*P.length+nb≤11*text.length:=by
  have h1:=mD.len h;have h2:=Ec (ls:=ls) (text.drop i) fun c FM=>(hc.len c (List.mem_of_mem_drop FM)).2
  grind
theorem vP.fin (h:vP ls text P C nb 0) (hb:nb≤62) {k:Nat} (hk:k=(nb+1+7)/8):Bytes (P++bK (C+1*2^nb) k)∧(P++bK (C+1*2^nb) k).length=tN (lv ls) text/8+1∧tailV (P++bK (C+1*2^nb) k) 0 (tN (lv ls) text/8+1)=2^tN (lv ls) text+bitsV (codeBits ls text):=by
  have h1:=(mD.add h (x:=1) (b:=1) Od Om).align hk;grind
theorem vP.four (h:vP ls text P C nb (i+4)) (hc:JV ls text) (hi:i+3<text.length) (hb:nb≤19) {a0 a1 a2 a3 b0 b1 b2 b3:Nat} (e0:a0=kf ls (text.getD i 0)) (e1:a1=kf ls (text.getD (i+1) 0)) (e2:a2=kf ls (text.getD (i+2) 0)) (e3:a3=kf ls (text.getD (i+3) 0)) (f0:b0=ls.getD (text.getD i 0) 0) (f1:b1=ls.getD (text.getD (i+1) 0) 0) (f2:b2=ls.getD (text.getD (i+2) 0) 0) (f3:b3=ls.getD (text.getD (i+3) 0) 0):
    vP ls text P (C+(a3+a2*2^b3+a1*2^(b3+b2)+a0*2^(b3+b2+b1))*2^nb) (nb+(b3+b2+b1+b0)) i∧b0≤11∧b1≤11∧b2≤11∧b3≤11∧a3<2^b3∧a2<2^b2∧a1<2^b1∧a0<2^b0:=by
  have g:∀j,j<text.length→ls.getD (text.getD j 0) 0≤11∧kf ls (text.getD j 0)<2^ls.getD (text.getD j 0) 0:=fun j hj=>⟨(hc.len _ (ij hj)).2,hc.lt _ (ij hj)⟩
  have g0:=g i Om;have g1:=g (i+1) Om;have g2:=g (i+2) Om;have g3:=g (i+3) Om;rw[←e0, ←f0] at g0;rw[←e1, ←f1] at g1;rw[←e2, ←f2] at g2;rw[←e3, ←f3] at g3;have s3:=vP.step (i:=i+3) h hc Om rfl e3 f3 Om;have s2:=vP.step (i:=i+2) s3 hc Om rfl e2 f2 Om;have s1:=vP.step (i:=i+1) s2 hc Om rfl e1 f1 Om;have s0:=vP.step (i:=i) s1 hc Om rfl e0 f0 Om;refine⟨?_,g0.1,g1.1,g2.1,g3.1,g3.2,g2.2,g1.2,g0.2⟩;have eC:C+a3*2^nb+a2*2^(nb+b3)+a1*2^(nb+b3+b2)+a0*2^(nb+b3+b2+b1)=C+(a3+a2*2^b3+a1*2^(b3+b2)+a0*2^(b3+b2+b1))*2^nb:=by
    grind
  rw[←eC,show nb+(b3+b2+b1+b0)=nb+b3+b2+b1+b0 by omega];exact s0
end
def Pb (b o:Nat) (cs:List Value) (b' o':Nat) (O:au):Prop:=(b'=b∧o'=o∧O=⟨0,0,[],none⟩)∨(O.b=b∧O.o=o∧O.cs=cs)
def iN (b o n:Nat) (P:List Nat) (b' o':Nat) (O:au):Prop:=(b'=b∧o'=o∧O=⟨0,0,[],none⟩)∨(O.b=b∧O.o=o∧O.cs.take n=aa .u8 P)
theorem Pb.n {b o b' o' n:Nat} {cs:List Value} {O:au} {P:List Nat} (h:Pb b o cs b' o' O) (hp:cs.take n=aa .u8 P):iN b o n P b' o' O:=by
  rcases h with h|⟨h1,h2,h3⟩
  · exact .inl h
  · exact .inr ⟨h1,h2,by rw[h3];exact hp⟩
theorem iN.same {b o n:Nat} {P:List Nat}:iN b o n P b o ⟨0,0,[],none⟩:=.inl ⟨rfl,rfl,rfl⟩
theorem iN.less {b o b' o' n m:Nat} {O:au} {P:List Nat} (h:iN b o n P b' o' O) (hm:m≤n):iN b o m (P.take m) b' o' O:=by
  rcases h with h|⟨h1,h2,h3⟩
  · exact .inl h
  · refine .inr ⟨h1,h2,?_⟩;have e:O.cs.take m=(O.cs.take n).take m:=by rw[List.take_take,Nat.min_eq_left hm]
    simp_all [aa]
section
variable {P:Program} {K:Kx} {Q:Exit→Act→World→Prop} {ρ:aC} {l r:List au} {o:Oper} {v:Value} {x y z:Operand} {t s f sz n m c lo hi len cap b q j d:Nat} {k k':IntKind}
theorem At.Pc {a:Act} {w:World} {s t:au} {i:Nat} (h:At K ρ (s::l) r a w) (hi:nthS i l=some t):At K ρ (t::setS i s l) r a w:=(h.perm (uM i s t l hi)).perm List.perm_append_comm
theorem At.tl {a:Act} {w:World} {s:au} (h:At K ρ (s::l) r a w):At K ρ l r a w:=(h.perm (List.perm_append_singleton s l).symm).left
section
variable {b0 o0 n0 b1 o1 n1 b2 o2:Nat} {P0 P1:List Nat} {O1 O2:au}
end
theorem acz {ca:Call} {q q2:Option Addr} {b o' c2 e nQ:Nat} {cs zs news:List Value} {sh:Option (TypeId × Nat)} (i:Nat) (ho:o.op=.call ca) (hc:ca.callee=.builtin .append) (gx:evs ρ ca.args.toList=some [.slice q n cap,.slice q2 m c2]) (vz:ca.argTypes= #[t,t]) (hP:e8 P t=some (e,zs,sz,nQ)) (hz:zs.length=sz)
    (hs:nthS i l=some ⟨b,o',cs,sh⟩) (hg:GS q b o' cs sz cap) (oQ:Src l r q2 news) (Pd:cap≤9223372036854775807) (hn:n≤cap∧0<sz∧(n+m)*nQ≤140737488355328∧n+m≤9223372036854775807) (hlen:news.length=m*sz) (h1:(news.all fun u=>u.oneCell')=true) (hd:o.dst=some d) (sM:Nat.blt d K.n=true):
    kB P K ρ l r o (fun ρ' l'=>∃q' b' FB gM fY O,GS q' b' FB gM sz fY∧n+m≤fY∧gM.take ((n+m)*sz)=cs.take (n*sz)++news∧Pb b o' cs b' FB O∧fY≤9223372036854775807∧ρ'=(d,.slice q' (n+m) fY)::ρ∧l'=O::setS i ⟨b',FB,gM,none⟩ l):=by
  intro a w ha nx Q lY;obtain⟨Ji,h0,hby,UY⟩:=hn;obtain⟨i',zv,hu,hi,rB,lz,vy,Df⟩:=fZ hP;have rC:∀w,(sizeOf e).run P w=.ok sz w:=cC (by simp[eV,hi,vy]);have iz:=kC ha.fr gx;have Wb:∀u ∈ news,u.oneCell'=true:=fun u hu=>List.all_eq_true.1 h1 u hu
  have ks:∀(u:Value) (w':World),(Builtin.append_ #[t,t] o.type #[.slice q n cap,.slice q2 m c2]).run P w=.ok u w'→(execOp a.eval o).run P w=.ok (.value u) w':=fun u w' h=>by
    simp[execOp,ho,resolve,hc,iz,invoke,builtin,vz,h]
  have zV:zv.cells.size=sz:=by rw[←hz, ←lz];simp
  have YU:cs.length=cap*sz:=hg.len;unfold Oper.wp;by_cases ja:n+m≤cap
  · -- within the room
    have hle:(n+m)*sz≤cap*sz:=Nat.mul_le_mul_right _ ja;rw[Nat.add_mul] at hle;have fin:∀(w':World) (q':Option Addr),At K ρ (setS i ⟨b,o',spl cs (n*sz) news,none⟩ l) r a w'→q'=q→
        nx (a.put (some d) (.slice q' (n+m) cap)) w':=fun w' q' hA hq'=>by
      subst hq';refine lY _ _ ⟨_,_,⟨q',b,o',spl cs (n*sz) news,cap,⟨0,0,[],none⟩,⟨by rw[kU];exact YU,hg.ad⟩,ja,?_,.inl ⟨rfl,rfl,rfl⟩,Pd,rfl,rfl⟩,(hA.empty 0 0).put sM _⟩;grind [De]
    have asC:∀w',At K ρ (setS i ⟨b,o',spl cs (n*sz) news,sh⟩ l) r a w'→At K ρ (setS i ⟨b,o',spl cs (n*sz) news,none⟩ l) r a w':=fun w' hA=>by
      exact((hA.perm (iA i _ _ l hs)).ly).perm (iA i _ _ l hs).symm
    rcases oQ.cells ha with Dh|⟨ad,Nv,jb⟩
    · -- nothing is appended
      subst Dh;have hm:m=0:=by
        rcases Nat.mul_eq_zero.1 (show m*sz=0 by simpa using hlen.symm) with h|h
        · exact h
        · omega
      subst hm;have Di:(Builtin.firstCells sz 0 (.slice q2 0 c2)).run P w=.ok #[] w:=by
        cases q2<;>simp[Builtin.firstCells,loadCells,loadCellsFrom]
      have hr:(Builtin.append_ #[t,t] o.type #[.slice q n cap,.slice q2 0 c2]).run P w=.ok (.slice q (n+0) cap) w:=by
        cases q<;>simp[Builtin.append_,aK hu,rC,Builtin.lenOf,ja,Ji,Di,storeCells]
      rw[ks _ _ hr];simp only[Oper.upon,hd];grind [spl,au,gQ]
    · by_cases L3:m=0
      · subst L3;simp at hlen;subst hlen;have Di:(Builtin.firstCells sz 0 (.slice q2 0 c2)).run P w=.ok #[] w:=by
          cases q2<;>simp[Builtin.firstCells,loadCells,loadCellsFrom]
        have hr:(Builtin.append_ #[t,t] o.type #[.slice q n cap,.slice q2 0 c2]).run P w=.ok (.slice q (n+0) cap) w:=by
          cases q<;>simp[Builtin.append_,aK hu,rC,Builtin.lenOf,ja,Ji,Di,storeCells]
        rw[ks _ _ hr];simp only[Oper.upon,hd];grind [spl,au,gQ]
      · have hq:q=some ⟨b,o',none⟩:=hg.ay Om;subst hq;subst Nv;have Di:=run_firstCells_some (P:=P) w sz m ad m c2 news hlen jb;obtain⟨w',Wc,hA⟩:=fE (P:=P) news 0 (n*sz) l w ⟨b,o',cs,sh⟩ i b (o'+n*sz) ha hs rfl Oi Oz Wb;have hr:(Builtin.append_ #[t,t] o.type #[.slice (some ⟨b,o',none⟩) n cap,.slice (some ad) m c2]).run P w=.ok (.slice (some ⟨b,o',none⟩) (n+m) cap) w':=by
          simp[Builtin.append_,aK hu,rC,Builtin.lenOf,ja,Di,dd,Wc]
        rw[ks _ _ hr];simp only[Oper.upon,hd];grind
  · -- it grows
    have L3:0<m:=Om;have ai5:news≠[]:=by
      intro e;subst e;rcases Nat.mul_eq_zero.1 (show m*sz=0 by simpa using hlen.symm) with h|h<;>omega
    rcases oQ.cells ha with Dh|⟨ad,Nv,jb⟩
    · grind
    subst Nv;have Nw:Builtin.nextslicecap (n+m) cap*i'.bytes≤281474976710656:=growslice_fits Om (by rw[Df];exact hby);have fin:∀(C:Nat) (rD rest:List Value),n+m≤C→C≤9223372036854775807→rD=cs.take (n*sz)→rest.length=(C-(n+m))*sz→
        nx (a.put (some d) (.slice (some ⟨w.heap.size,0,none⟩) (n+m) C)) (w.drew.alloc (.cells (rD.toArray++news.toArray++rest.toArray) e)):=fun C rD rest hC hCm ho' hr=>by
      have hA:=((ha.drew.alloc (rD.toArray++news.toArray++rest.toArray) e).ly).Pc hs;have hol:rD.length=n*sz:=by
        simp_all
      have hCC:C*sz=(n+m)*sz+(C-(n+m))*sz:=by rw[←Nat.add_mul];congr 1;omega
      refine lY _ _ ⟨_,_,⟨some ⟨w.heap.size,0,none⟩,w.heap.size,0,(rD.toArray++news.toArray++rest.toArray).toList,C,⟨b,o',cs,sh⟩,⟨?_,.inl rfl⟩,hC,?_,.inr ⟨rfl,rfl,rfl⟩,hCm,rfl,rfl⟩,hA.put sM _⟩
      · grind
      · have h2:(n+m)*sz=(rD++news).length:=by simp[hol,hlen,Nat.add_mul]
        grind
    have wC:=grownCap_ge w (n+m) cap e;have hgl:grownCap w (n+m) cap e≤9223372036854775807:=grownCap_le_maxLen w (n+m) cap e UY;have Dj:∀N,(Builtin.zeroCells zv.cells N).toList.length=N*sz:=fun N=>by simp[Builtin.zeroCells,zV]
    rcases hg.ad with hq|⟨hq,Dk⟩
    · subst hq;have vr:∀j u,(cs.take (n*sz))[j]? =some u→w.cell? ((⟨b,o',none⟩:Addr).add j)=some u:=fun j u hj=>by
        rw[dd];have jz:=ha.st.hl _ (dw _ _ _ hs);rw[List.getElem?_take] at hj;split at hj
        · exact jz.1 _ _ hj
        · cases hj
      have hr:=run_append_grow (P:=P) w t o.type e i' zv hu hi rB ⟨b,o',none⟩ n cap (cs.take (n*sz)) (by
        have:n*sz≤cap*sz:=Nat.mul_le_mul_right _ Ji;rw[List.length_take,vy];omega) vr ad m c2 news (by rw[vy];exact hlen) jb Om Om Nw
      rw[ks _ _ hr];simp only[Oper.upon,hd];have:=fin (grownCap w (n+m) cap e) _ (Builtin.zeroCells zv.cells (grownCap w (n+m) cap e-(n+m))).toList wC hgl rfl (Dj _);omega
    · subst hq;subst Dk;obtain rfl:n=0:=Om;have hr:=run_append_nil (P:=P) w t o.type e i' zv hu hi rB ad m c2 news (by rw[vy];exact hlen) jb Om Om (by
        grind)
      rw[ks _ _ hr];simp only[Oper.upon,hd];have:=fin (grownCap w m 0 e) [] (Builtin.zeroCells zv.cells (grownCap w m 0 e-m)).toList (by simpa using wC) (by simpa using hgl) Oi (by simpa using Dj _);simp_all
theorem BL {ca:Call} {q q2:Option Addr} {b o' c2 e nQ:Nat} {cs zs:List Value} {xs ys:List Nat} {sh:Option (TypeId × Nat)} (i:Nat) (ho:o.op=.call ca) (hc:ca.callee=.builtin .append) (gx:evs ρ ca.args.toList=some [.slice q n cap,.slice q2 m c2]) (vz:ca.argTypes= #[t,t]) (hP:e8 P t=some (e,zs,1,nQ)) (hz:zs.length=1)
    (hs:nthS i l=some ⟨b,o',cs,sh⟩) (hg:GS q b o' cs 1 cap) (hp:cs.take n=aa .u8 xs) (oQ:Src l r q2 (aa .u8 ys)) (Pd:cap≤9223372036854775807) (hn:n≤cap∧(n+m)*nQ≤140737488355328∧n+m≤9223372036854775807∧ys.length=m) (hd:o.dst=some d) (sM:Nat.blt d K.n=true):
    kB P K ρ l r o (fun ρ' l'=>∃q' b' FB gM fY O,GS q' b' FB gM 1 fY∧n+m≤fY∧gM.take (n+m)=aa .u8 (xs++ys)∧iN b o' n xs b' FB O∧fY≤9223372036854775807∧ρ'=(d,.slice q' (n+m) fY)::ρ∧l'=O::setS i ⟨b',FB,gM,none⟩ l):=by
  intro a w ha nx Q lY;refine acz (K:=K) i ho hc gx vz hP hz hs hg oQ Pd ⟨hn.1,Om,hn.2.1,hn.2.2.1⟩ (by simp[hn.2.2.2]) (eh _) hd sM a w ha nx Q fun a' w' ⟨ρ',l',⟨q',b',FB,gM,fY,O,h1,h2,h3,h4,h4',h5,h6⟩,h7⟩=>lY a' w' ⟨ρ',l',⟨q',b',FB,gM,fY,O,h1,h2,?_,h4.n hp,h4',h5,h6⟩,h7⟩
  grind [lA]
end
section
variable {P:Program} {K:Kx} {Q:Exit→Act→World→Prop} {ρ:aC} {l r:List au} {o:Oper} {v:Value} {x y z:Operand} {t s f sz n m c lo hi len cap b q j d:Nat} {k k':IntKind}
theorem acA {ca:Call} {b o' e nQ:Nat} {cs zs:List Value} {sh:Option (TypeId × Nat)} {kq kn:IntKind} {tn:TypeId} (i:Nat) (ho:o.op=.call ca) (hc:ca.callee=.builtin .append) (gx:evs ρ ca.args.toList=some [.slice (some ⟨b,o',none⟩) n cap,.int kq ((m:Nat):Int)]) (vz:ca.argTypes= #[t,tn]) (hP:e8 P t=some (e,zs,1,nQ)) (hz:zs.length=1) (ZA:P.underlying tn=some (.int kn))
    (hs:nthS i l=some ⟨b,o',cs,sh⟩) (hn:n≤cs.length∧0<m∧cap<n+m∧n≤cap∧(n+m)*nQ≤140737488355328∧m*nQ≤281474976710656∧n+m≤9223372036854775807) (hd:o.dst=some d) (sM:Nat.blt d K.n=true):
    kB P K ρ l r o (fun ρ' l'=>∃b' gM fY,gM.length=fY∧n+m≤fY∧fY≤9223372036854775807∧gM.take n=cs.take n∧ρ'=(d,.slice (some ⟨b',0,none⟩) (n+m) fY)::ρ∧l'=⟨b,o',cs,sh⟩::setS i ⟨b',0,gM,none⟩ l):=by
  intro a w ha nx Q lY;obtain⟨h1,h2,h3,h4,h5,h5',h6⟩:=hn;obtain⟨i',zv,hu,hi,rB,lz,vy,Df⟩:=fZ hP;have iz:=kC ha.fr gx;have ks:∀(u:Value) (w':World),(Builtin.append_ #[t,tn] o.type #[.slice (some ⟨b,o',none⟩) n cap,.int kq ((m:Nat):Int)]).run P w=.ok u w'→(execOp a.eval o).run P w=.ok (.value u) w':=fun u w' h=>by
    simp[execOp,ho,resolve,hc,iz,invoke,builtin,vz,h]
  have zV:zv.cells.size=1:=by rw[←hz, ←lz];simp
  have vr:∀j u,(cs.take n)[j]? =some u→w.drew.cell? ((⟨b,o',none⟩:Addr).add j)=some u:=fun j u hj=>by
    rw[dd];have jz:=ha.drew.st.hl _ (dw _ _ _ hs);rw[List.getElem?_take] at hj;split at hj
    · exact jz.1 _ _ hj
    · cases hj
  have hold:=run_firstCells_some (P:=P) w.drew 1 n ⟨b,o',none⟩ n cap (cs.take n) (by rw[List.length_take];omega) vr;have Nw:Builtin.nextslicecap (n+m) cap*i'.bytes≤281474976710656:=growslice_fits Om (by rw[Df];exact h5);have hr:=Lib.run_append_grow_zeros (P:=P) w t tn o.type e i' zv kq kn hu ZA hi rB (some ⟨b,o',none⟩) n cap (cs.take n) (by rw[vy];exact hold) m h2 Om h3 Om (by rw[Df];exact h5') Nw;have wC:=grownCap_ge w (n+m) cap e;have Dj:∀N,(Builtin.zeroCells zv.cells N).toList.length=N:=fun N=>by simp[Builtin.zeroCells,zV]
  unfold Oper.wp;rw[ks _ _ hr];simp only[Oper.upon,hd];obtain⟨Z1,hZ1⟩:∃z,z=Builtin.zeroCells zv.cells m:=⟨_,rfl⟩;obtain⟨Z2,hZ2⟩:∃z,z=Builtin.zeroCells zv.cells (grownCap w (n+m) cap e-(n+m)):=⟨_,rfl⟩;rw[←hZ1, ←hZ2];have l1:Z1.toList.length=m:=by rw[hZ1];exact Dj _
  have l2:Z2.toList.length=grownCap w (n+m) cap e-(n+m):=by rw[hZ2];exact Dj _
  have hA:=((ha.drew.alloc ((cs.take n).toArray++Z1++Z2) e).ly).Pc hs;have hol:(cs.take n).length=n:=by rw[List.length_take];omega
  refine lY _ _ ⟨_,_,⟨w.heap.size,((cs.take n).toArray++Z1++Z2).toList,grownCap w (n+m) cap e,?_,wC,grownCap_le_maxLen w (n+m) cap e h6,?_,rfl,rfl⟩,hA.put sM _⟩
  · simp only[Array.toList_append,List.length_append,hol,l1,l2];omega
  · simp only[Array.toList_append];rw[List.append_assoc,List.take_left' hol]
end
def kv (b o n:Nat) (P:List Nat) (b' o':Nat) (D:List au):Prop:=(b'=b∧o'=o)∨∃O ∈ D,O.b=b∧O.o=o∧O.cs.take n=aa .u8 P
theorem kv.begin {b o n:Nat} {P:List Nat} {D:List au}:kv b o n P b o D:=.inl ⟨rfl,rfl⟩
theorem kv.push {b0 o0 n0 b1 o1 n1 b2 o2:Nat} {P0 P1:List Nat} {D:List au} {O:au} (h:kv b0 o0 n0 P0 b1 o1 D) (hO:iN b1 o1 n1 P1 b2 o2 O) (hn:n0≤n1) (hp:P1.take n0=P0):kv b0 o0 n0 P0 b2 o2 (O::D):=by
  rcases h with ⟨e1,e2⟩|⟨O',hm,h'⟩
  · subst e1;subst e2;have h3:=hO.less hn;rw[hp] at h3;rcases h3 with ⟨e1,e2,_⟩|h3
    · exact .inl ⟨e1,e2⟩
    · exact .inr ⟨O,List.mem_cons_self,h3⟩
  · exact .inr ⟨O',List.mem_cons_of_mem _ hm,h'⟩
theorem kv.more {b o n b' o':Nat} {P:List Nat} {D:List au} {O:au} (h:kv b o n P b' o' D):kv b o n P b' o' (O::D):=h.imp id fun ⟨O',hm,h'⟩=>⟨O',List.mem_cons_of_mem _ hm,h'⟩
section
variable {P:Program} {K:Kx} {Q:Exit→Act→World→Prop} {ρ:aC} {l r:List au}
theorem At.Pe {a:Act} {w:World} {D:List au} {O:au} (h:At K ρ (l++D) r a w) (hO:O ∈ D):At K ρ (O::l) r a w:=by
  obtain⟨s,t,rfl⟩:=List.append_of_mem hO;have hp:(l++(s++O::t)).Perm ((O::l)++(s++t)):=by
    have h1:(s++O::t).Perm (O::(s++t)):=List.perm_middle;exact(h1.append_left l).trans List.perm_middle
  exact(h.perm hp).left
theorem At.lone {a:Act} {w:World} {b o n b' o':Nat} {P0:List Nat} {D:List au} (h:At K ρ (l++D) r a w) (hk:kv b o n P0 b' o' D):∃O,iN b o n P0 b' o' O∧At K ρ (O::l) r a w:=by
  rcases hk with ⟨e1,e2⟩|⟨O,hm,h'⟩
  · exact⟨⟨0,0,[],none⟩,.inl ⟨e1,e2,rfl⟩,h.left.empty 0 0⟩
  · exact⟨O,.inr h',h.Pe hm⟩
theorem GQ.lone {e:Exit} {b o n b' o':Nat} {P0:List Nat} {D:List au} (hk:kv b o n P0 b' o' D) (k:∀O,iN b o n P0 b' o' O→GQ K Q e ρ (O::l) r):GQ K Q e ρ (l++D) r:=fun a w ha=>by
  obtain⟨O,h1,h2⟩:=ha.lone hk;exact k O h1 a w h2
end
theorem W9 (A B:List Nat) (x y:Nat):((A++0::0::B).set A.length x).set (A.length+1) y=A++x::y::B:=by
  simp_all
def hz (Y:List (List Nat)):List Nat:=mr (Y.take 3)++List.replicate (6-2*min Y.length 3) 0
theorem nC:∀Y:List (List Nat),(mr Y).length=2*Y.length
  |[]=>rfl
  |y::Y=>by
    have:=nC Y;grind [mr]
theorem gj (Y:List (List Nat)):(hz Y).length=6:=by
  grind [hz,nC]
theorem Xa {Y:List (List Nat)} {y base Q:List Nat} {n:Nat} (h:Y.length<3) (hn:y.length=n):(((base++(hz Y++Q)).set (base.length+2*Y.length) (n%256)).set (base.length+2*Y.length+1) (n/2^8))=base++(hz (Y++[y])++Q):=by
  have e1:hz Y=mr Y++0::0::List.replicate (4-2*Y.length) 0:=by
    rw[hz,List.take_of_length_le Om,show 6-2*min Y.length 3=(4-2*Y.length)+1+1 by omega,List.replicate_succ,List.replicate_succ]
  have e2:hz (Y++[y])=mr Y++(n%256)::(n/2^8)::List.replicate (4-2*Y.length) 0:=by
    have h2:=F6 (y:=y) h hn;rw[List.take_of_length_le (l:=Y) Om] at h2;grind [hz]
  grind [W9,mr,nC]
theorem Xb {Y:List (List Nat)} {y:List Nat} (h:Y.length=3):hz (Y++[y])=hz Y:=by
  grind [hz]
theorem asX (d:Nat):∃q:Int,Int.tdiv ((d:Int)-8) 6=q∧(q≤0→d<14)∧(0<q→6*q+8≤d∧14≤d)∧q≤d∧ -8≤q:=by
  refine⟨_,rfl,?_⟩;rcases Nat.lt_or_ge d 8 with h|h
  · have:d=0∨d=1∨d=2∨d=3∨d=4∨d=5∨d=6∨d=7:=Om;rcases this with rfl|rfl|rfl|rfl|rfl|rfl|rfl|rfl<;>decide
  · obtain⟨e,rfl⟩:∃e,d=e+8:=⟨d-8,Om⟩;have:((e+8:Nat):Int)-8=(e:Int):=Om;rw[this];have h2:Int.tdiv (e:Int) 6=((e/6:Nat):Int):=rfl;rw[h2];omega
theorem Pf {P:Program} {ρ:aC} {o:Oper} {x y:Operand} {a b q:Int} {ty bN:TypeId} (ho:o.op=.binOp .quo ty x y bN) (hx:ev ρ x=some (.int .i64 a)) (hy:ev ρ y=some (.int .i64 b)) (hb:b≠0) (e:a.tdiv b=q) (hr: -9223372036854775808≤q∧q≤9223372036854775807):aG P ρ o (.int .i64 q):=(w7 ho hx hy hb).cast (by rw[e,IntWalk.i64_in _ hr])
theorem tP {T:List (Nat × Nat)} {ls text:List Nat} {i:Nat} (hT:∀c ∈ text,T.getD c (0,0)=(kf ls c,ls.getD c 0)) (hi:i<text.length) {c:Nat} (hc:c=text.getD i 0):(T.getD c (0,0)).1=kf ls c∧(T.getD c (0,0)).2=ls.getD c 0:=by
  have hm:c ∈ text:=by rw[hc];exact ij hi
  rw[hT c hm];exact⟨rfl,rfl⟩
theorem wM {xs:List Nat} {n k j:Nat} (h:j<n):((xs.drop k).take n).getD j 0=xs.getD (k+j) 0:=by simp[List.getD_eq_getElem?_getD,List.getElem?_take,h,List.getElem?_drop]
structure Ctx (xs CN:List Nat) (i:Nat):Prop where
  len:CN.length=256
  get:∀v,v<256→CN.getD v 0=(xs.take i).count v
theorem Ctx.begin {xs:List Nat}:Ctx xs (List.replicate 256 0) 0:=⟨List.length_replicate,fun v _=>by rw[mF,List.take_zero];rfl⟩
theorem Ctx.step {xs CN:List Nat} {i c:Nat} (h:Ctx xs CN i) (hi:i<xs.length) (hc:c=xs.getD i 0) (Dr:c<256):Ctx xs (CN.set c (CN.getD c 0+1)) (i+1):=by
  have hl:=h.len;refine⟨by simp[hl],fun v hv=>?_⟩;rw[aS Om,iu hi, ←hc];split
  · rename_i e;rw[←e,h.get c Dr]
  · rename_i e;rw[h.get v hv];rfl
theorem Ctx.le {xs CN:List Nat} {i:Nat} (h:Ctx xs CN i) (hi:i≤xs.length) {v:Nat} (hv:v<256):CN.getD v 0≤i:=by
  rw[h.get v hv];refine Nat.le_trans List.count_le_length ?_;grind
theorem Ctx.pos {xs CN:List Nat} (h:Ctx xs CN xs.length) (hb:Bytes xs) {c:Nat} (hc:c ∈ xs):CN.getD c 0≠0:=by
  rw[h.get c (hb c hc),List.take_length];grind
structure BM (ls xs zs:List Nat):Prop where
  bytes:Bytes zs
  len:zs.length=tN (lv ls) xs/8+1
  val:tailV zs 0 (tN (lv ls) xs/8+1)=2^tN (lv ls) xs+bitsV (codeBits ls xs)
theorem JV.sub {ls xs ys:List Nat} (h:JV ls xs) (hs:∀c ∈ ys,c ∈ xs):JV ls ys:=⟨fun c hc=>h.len c (hs c hc),fun c hc=>h.lt c (hs c hc)⟩
def Md (xs:List Nat) (sg j:Nat):List Nat:=(xs.drop (j*sg)).take sg
theorem tQ {xs:List Nat} {sg j c:Nat} (h:c ∈ Md xs sg j):c ∈ xs:=List.mem_of_mem_drop (List.mem_of_mem_take h)
structure U8 (ls xs:List Nat) (sg i:Nat) (Y:List (List Nat)):Prop where
  len:Y.length=i
  get:∀j,j<i→BM ls (Md xs sg j) (Y.getD j [])∧(Y.getD j []).length≤65535
theorem U8.begin {ls xs:List Nat} {sg:Nat}:U8 ls xs sg 0 []:=⟨rfl,fun j h=>Om⟩
theorem Pg {α:Type} {Y:List α} {y d:α}:(Y++[y]).getD Y.length d=y:=by simp[List.getD_eq_getElem?_getD]
theorem GC {α:Type} {Y:List α} {y d:α} {j:Nat} (h:j<Y.length):(Y++[y]).getD j d=Y.getD j d:=by simp[List.getD_eq_getElem?_getD,List.getElem?_append_left h]
theorem U8.step {ls xs:List Nat} {sg i:Nat} {Y:List (List Nat)} {y:List Nat} (h:U8 ls xs sg i Y) (hy:BM ls (Md xs sg i) y) (hl:y.length≤65535):U8 ls xs sg (i+1) (Y++[y]):=by
  have hL:=h.len;refine⟨by simp[hL],fun j hj=>?_⟩;by_cases e:j=i
  · rw[e, ←hL,Pg,hL];exact⟨hy,hl⟩
  · rw[GC Om];exact h.get j Om
theorem qy {Y:List (List Nat)} {y:List Nat}:(Y++[y]).flatten=Y.flatten++y:=by simp
theorem Rd.as {q:Option Addr} {n:Nat} {k:IntKind} {xs ys:List Nat} {s:au} {j:Nat} (h:Rd q n 1 (aa k xs) s j) (e:xs=ys):Rd q n 1 (aa k ys) s j:=e▸h
theorem Ax {xs:List Nat} {sg i n t:Nat} (hn:n=xs.length-i*sg) (h1:t≤n) (h2:t=sg∨t=n) (h3:t≤sg):((xs.drop (i*sg)).drop t).take (n-t)=xs.drop ((i+1)*sg):=by
  rw[List.take_of_length_le Oz,List.drop_drop,Nat.add_mul,Nat.one_mul];rcases h2 with h|h
  · rw[h]
  · by_cases e:t=sg
    · rw[e]
    · rw[List.drop_of_length_le Om,List.drop_of_length_le Om]
theorem Ph {xs:List Nat} {sg i n:Nat} (hn:n=xs.length-i*sg) (h:n≤sg):xs.drop (i*sg)=Md xs sg i:=(List.take_of_length_le Oz).symm
def mG (ls xs zs:List Nat):Prop:=∃Y,U8 ls xs ((xs.length+3)/4) 4 Y∧zs=hz Y++Y.flatten
def okV (ok:Bool) (v:Value):Value:=match ok with
  |true=>v
  |false=>.slice none 0 0
theorem acB:Array.range 6= #[0,1,2,3,4,5]:=by decide
theorem Ay:∀{xs:List Nat},Bytes xs→sm (fun v=>xs.count v) 256=xs.length
  |[],_=>by
    have:sm (fun v=>([]:List Nat).count v) 256=sm (fun _=>0) 256:=bx fun i _=>by simp
    rw[this,fI];rfl
  |x::xs,h=>by
    have h1:sm (fun v=>(x::xs).count v) 256=sm (fun v=>xs.count v+(if v=x then 1 else 0)) 256:=bx fun i _=>by
      rw[List.count_cons];by_cases e:i=x
      · rw[if_pos e,if_pos (by rw[e];exact beq_self_eq_true x)]
      · rw[if_neg e,if_neg (by simpa using fun h=>e h.symm)]
    rw[h1,wI,Ay (fun y hy=>h y (List.mem_cons_of_mem _ hy)),xK (h x List.mem_cons_self)]
    rfl
section
variable {xs CN:List Nat} {n iQ mx sy:Nat}
theorem Ctx.sum (h:Ctx xs CN n) (hn:xs.length=n) (hb:Bytes xs):sm (oy CN) 256=n:=by
  rw[←hn, ←Ay hb];refine bx fun i hi=>?_
  show CN.getD i 0=_;rw[h.get i hi, ←hn,List.take_length]
theorem Ctx.max (h:Ctx xs CN n) (hn:xs.length=n) (hb:Bytes xs) (hc:tO CN 256 iQ mx sy):mx≤n∧(0<n→1≤mx):=by
  have hle:∀v,v<256→CN.getD v 0≤n:=fun v hv=>h.le Om hv
  refine⟨?_,fun h0=>?_⟩
  · rcases hc.me with e|⟨x,hx,e⟩
    · omega
    · have:=hle x hx;omega
  · have hm:xs.getD 0 0 ∈ xs:=ij Om;have h1:=h.le (i:=n) Om (hb _ hm);have h2:=hc.mb _ (hb _ hm);have h3:CN.getD (xs.getD 0 0) 0≠0:=by
      have h':=h;rw[←hn] at h';exact h'.pos hb hm
    omega
theorem Ctx.two (h:Ctx xs CN n) (hn:xs.length=n) (hb:Bytes xs) (hc:tO CN 256 iQ mx sy) (h0:0<n) (hm:mx<n):∃a b,a≠b∧a<256∧b<256∧CN.getD a 0≠0∧CN.getD b 0≠0:=by
  have h':=h;rw[←hn] at h';have h1:=(h.max hn hb hc).2 h0;rcases hc.me with e|⟨x,hx,e⟩
  · omega
  · have hcx:xs.count x=mx:=by rw[←e,h'.get x hx,List.take_length]
    have:¬∀b ∈ xs,x=b:=fun ha=>by
      have:=List.count_eq_length.2 ha;omega
    obtain⟨b,rK,nU⟩:∃b,b ∈ xs∧x≠b:=by
      apply Classical.byContradiction;intro FC;exact this fun b uy=>by
        apply Classical.byContradiction;intro h5;exact FC ⟨b,uy,h5⟩
    exact⟨x,b,nU,hx,hb b rK,Om,h'.pos hb rK⟩
theorem ra.cds {ls:List Nat} {R la:Nat} {ys:List Nat} (h:ra CN ls R la ys) (hC:Ctx xs CN n) (hn:xs.length=n) (hb:Bytes xs):JV ls xs:=by
  have hC':=hC;rw[←hn] at hC';have g:∀c ∈ xs,1≤ls.getD c 0:=fun c hc=>h.has c (hb c hc) (hC'.pos hb hc)
  exact⟨fun c hc=>⟨g c hc,h.wh.2.1.at_ c⟩,fun c hc=>(W8 h.hw h.wh (g c hc)).2⟩
theorem fq.cds {T:List (Nat × Nat)} {sl R:Nat} (h:fq CN T sl R) (hco:JU T sl) (hC:Ctx xs CN n) (hn:xs.length=n) (hb:Bytes xs) (kh:sl≤256) (hz:∀x,sl≤x→x<256→CN.getD x 0=0):∀c ∈ xs,T.getD c (0,0)=(kf (ik T sl) c,(ik T sl).getD c 0):=fun c hc=>by
  have hC':=hC;rw[←hn] at hC';have h0:=hC'.pos hb hc;have CA:c<sl:=by
    apply Classical.byContradiction;intro FC;exact h0 (hz c Om (hb c hc))
  have h1:=(h.some c CA h0).1;rw[ep kh,if_pos CA, ←hco c CA h1]
end
def Pt (a:Addr) (s:au):Prop:=s.b=a.block∧a.spot=none∧∃m,s.o+m=a.off∧m<s.cs.length
def acC (a0 a1 a2 a:Addr) (N:au):Prop:=a=a0∨a=a1∨a=a2∨Pt a N
end Go.Proofs.YtekcchgffhphbaaGreatDoor
namespace Go.Proofs.YtekcchgffhphbaaGreatDoor
open Go
end Go.Proofs.YtekcchgffhphbaaGreatDoor
namespace Go.Proofs.YtekcchgffhphbaaGreatDoor
section
variable {P:Program} {K:Kx} {Q:Exit→Act→World→Prop} {ρ:aC} {l r:List au} {o:Oper} {v:Value} {x y z:Operand} {t e n m cap q:Nat} {k:IntKind}
theorem ajS {fn:Fn} {first cap:Array Operand} {fs:List Value} (ho:o.op=.makeFunc fn first cap) (hf:evs ρ first.toList=some fs) (hc:cap= #[]):aG P ρ o (.func fn fs.toArray #[]):=fun ac ha w=>by
  have h1:first.map ac.eval=fs.toArray:=by
    have:=oM ha _ _ hf;apply Array.toList_inj.1;simpa using this
  subst hc;simp[execOp,ho,Instr.makeFunc,h1,Sem.run_pure]
theorem Xc {c:Call} {f:FuncId} {args fs:List Value} {cal:Operand} {lc rest rc:List au} {dx:Value→List au→Prop} {d:Nat} (is rs:List Nat) (uF:aI P f (fs++args) lc rc dx) (ho:o.op=.call c) (hf:c.callee=.value cal) (asY:ev ρ cal=some (.func (.func f) fs.toArray #[])) (gx:evs ρ c.args.toList=some args)
    (hl:pickS is l=some (lc,rest)) (hr:pickR rs (rest++r)=some rc) (hd:o.dst=some d) (hn:Nat.blt d K.n=true):
    kB P K ρ l r o (fun ρ' l'=>∃v wb,dx v wb∧ρ'=(d,v)::ρ∧l'=wb++rest):=by
  intro a w ha nx Q lY;have hA:=ha.perm (iy _ _ _ _ hl);have LZ:=uJ _ _ _ hr;have hca:=uF.run w (hA.st.Ns LZ);have iz:(c.args.map a.eval)=args.toArray:=by
    have:=oM ha.fr _ _ gx;apply Array.toList_inj.1;simpa using this
  have ajT:=bf ha.fr asY;have e:(execOp a.eval o).run P w=.ok (.enter f (fs++args).toArray) w:=by
    have hcf:=mY uF.can;simp[execOp,ho,resolve,hf,iz,ajT,Deferred.ofValue,invoke,hcf]
  unfold Oper.wp;rw[e];simp only[Oper.upon];refine hca.mono fun e w' hE=>?_
  obtain⟨v,wb,rfl,hP,hk,gV,C7⟩:=hE.out;simp only[hd];exact lY _ _ ⟨(d,v)::ρ,wb++rest,⟨v,wb,hP,rfl,rfl⟩,(hA.uK LZ hk gV C7).put hn v⟩
theorem qC {ca:Call} {q q2:Option Addr} {b o' c2 e nQ d:Nat} {cs zs:List Value} {xs ys:List Nat} {sh:Option (TypeId × Nat)} (i:Nat) (ho:o.op=.call ca) (hc:ca.callee=.builtin .append) (gx:evs ρ ca.args.toList=some [.slice q n cap,.slice q2 m c2]) (vz:ca.argTypes= #[t,t]) (hP:e8 P t=some (e,zs,1,nQ)) (hz:zs.length=1)
    (hs:nthS i l=some ⟨b,o',cs,sh⟩) (hg:GS q b o' cs 1 cap) (hp:cs.take n=aa .u8 xs) (oQ:Src l r q2 (aa .u8 ys)) (Pd:cap≤9223372036854775807) (hn:n≤cap∧(n+m)*nQ≤140737488355328∧n+m≤9223372036854775807∧ys.length=m) (hd:o.dst=some d) (sM:Nat.blt d K.n=true):
    kB P K ρ l r o (fun ρ' l'=>∃q' b' FB gM fY,GS q' b' FB gM 1 fY∧n+m≤fY∧gM.take (n+m)=aa .u8 (xs++ys)∧fY≤9223372036854775807∧ρ'=(d,.slice q' (n+m) fY)::ρ∧l'=setS i ⟨b',FB,gM,none⟩ l):=by
  intro a w ha nx Q lY;refine BL (K:=K) i ho hc gx vz hP hz hs hg hp oQ Pd hn hd sM a w ha nx Q fun a' w' ⟨ρ',l',⟨q',b',FB,gM,fY,O,h1,h2,h3,h4,h4',h5,h6⟩,h7⟩=>?_
  subst h6;exact lY a' w' ⟨ρ',_,⟨q',b',FB,gM,fY,h1,h2,h3,h4',h5,rfl⟩,h7.tl⟩
end
variable {P:Program} {ρ:aC} {o:Oper} {x y:Operand}
section
variable {P:Program} {w:World}
theorem xV {a:Addr} {c:Array Value} {T:TypeId} {f:Nat × Nat} (h:w.heap[a.block]? =some (.cells c T f)):(noView a).run P w=.ok () w:=by
  have hs:w.shape? a.block=some (T,c.size):=by simp[World.shape?,h]
  simp[noView,viewAt,hs]
theorem rb (a:Addr):∃b,(stringish a).run P w=.ok b w:=by
  cases hf:w.frozen? a with
  |true=>exact⟨true,by simp[stringish,hf]⟩
  |false=>
    cases hs:w.shape? a.block with
    |none=>exact⟨false,by simp[stringish,hf,hs]⟩
    |some x=>exact⟨w.frozen? ⟨a.block,x.2,none⟩,by simp[stringish,hf,hs]⟩
theorem BN (a b:Addr):∃x,(mayBeOne a b).run P w=.ok x w:=by
  obtain⟨s,hs⟩:=rb (P:=P) (w:=w) a;obtain⟨t,ht⟩:=rb (P:=P) (w:=w) b;exact⟨_,by simp only[mayBeOne,Sem.run_bind,hs,ht,run_shape,Result.andThen_ok,Sem.run_pure];rfl⟩
theorem BO {a b:Addr} {ca cb:Array Value} {Ta Tb:TypeId} {fa fb:Nat × Nat} (ha:w.heap[a.block]? =some (.cells ca Ta fa)) (hb:w.heap[b.block]? =some (.cells cb Tb fb)) (hf:w.frozen? a=false):∃x w',(sameAddr a b).run P w=.ok x w'∧(w'=w∨w'=w.drew):=by
  by_cases e:a.block=b.block
  · exact⟨a==b,w,by simp[sameAddr,e],.inl rfl⟩
  · obtain⟨m,hm⟩:=BN (P:=P) (w:=w) a b;have h1:=xV (P:=P) ha;have h2:=xV (P:=P) hb;cases m with
    |false=>exact⟨false,w,by simp[sameAddr,e,hf,h1,h2,hm],.inl rfl⟩
    |true=>exact⟨_,w.drew,by simp[sameAddr,e,hf,h1,h2,hm];rfl,.inr rfl⟩
theorem Pj {ti tp te:TypeId} {ms:Array (String × TypeId)} {i j:TypeInfo} {a b:Addr} {x:Bool} {w':World} (hi:P.underlying ti=some (.interface ms)) (hp:P.underlying tp=some (.pointer te)) (ajU:P.info? tp=some i) (ajV:i.comparable=true) (hte:P.info? te=some j) (vy:j.size≠0) (h:(sameAddr a b).run P w=.ok x w'):
    (binOp .eql ti (.iface tp (.pointer (some a))) (.iface tp (.pointer (some b)))).run P w=.ok (.bool x) w':=by
  have h2:∀d:Nat,(Op.equalIn (d+2) ti (.iface tp (.pointer (some a))) (.iface tp (.pointer (some b)))).run P w=.ok x w':=fun d=>by
    simp[Op.equalIn,run_underlying hi,run_underlying hp,typeInfo,ajU,ajV,sizeOf,hte,vy,h]
  simp only[binOp];simp[Op.equal,Op.maxDepth,h2 9998]
theorem GD {a:Addr} {v:Value} (h:w.cell? a=some v):∃c T f,w.heap[a.block]? =some (.cells c T f):=by
  unfold World.cell? at h;grind
end
section
variable {P:Program} {K:Kx} {Q:Exit→Act→World→Prop} {ρ:aC} {l r:List au} {o:Oper} {x y:Operand}
theorem Az {w:World} {s:au} {j:Nat} (h:s.oh w) (hj:j<s.cs.length):(∃c T f,w.heap[s.b]? =some (.cells c T f))∧w.frozen? ⟨s.b,s.o+j,none⟩=false:=by
  have h1:=h.1 j _ (List.getElem?_eq_getElem hj);exact⟨GD h1,h.2.1 j hj⟩
theorem GF {ms:Array (String × TypeId)} {b q c u tp te ty bN d i j m n:Nat} {s t:au} (ho:o.op=.binOp .eql ty x y bN) (hx:ev ρ x=some (.iface tp (.pointer (some ⟨b,q,none⟩)))) (hy:ev ρ y=some (.iface tp (.pointer (some ⟨c,u,none⟩)))) (hu:P.underlying ty=some (.interface ms)) (hp:P.underlying tp=some (.pointer te)) (hc:(P.info? tp).map (·.comparable)=some true) (hz:(P.info? te).map (fun z=>Nat.blt 0 z.size)=some true)
    (hi:nthS i r=some s) (hs:s.b=b∧s.o+m=q∧m<s.cs.length) (hj:nthS j r=some t) (ht:t.b=c∧n<t.cs.length) (hd:o.dst=some d) (hn:Nat.blt d K.n=true):
    kB P K ρ l r o (fun ρ' l'=>∃z:Bool,ρ'=(d,.bool z)::ρ∧l'=l):=by
  obtain⟨i1,hi1,KV⟩:=Option.map_eq_some_iff.1 hc;obtain⟨j1,FD,CC⟩:=Option.map_eq_some_iff.1 hz;have vy:j1.size≠0:=by simp[Nat.blt] at CC;omega
  intro a w ha nx Q lY;have h1:=Az (ha.st.hr s (dw _ _ _ hi)) hs.2.2;have h2:=Az (ha.st.hr t (dw _ _ _ hj)) ht.2;rw[hs.1,hs.2.1] at h1;rw[ht.1] at h2;obtain⟨⟨c1,T1,f1,e1⟩,g1⟩:=h1;obtain⟨⟨c2,T2,f2,e2⟩,g2⟩:=h2;obtain⟨z,w',hr,hw⟩:=BO (P:=P) (w:=w) (a:=⟨b,q,none⟩) (b:=⟨c,u,none⟩) e1 e2 g1;have hg:(eqGuard .eql ty x y (.iface tp (.pointer (some ⟨b,q,none⟩))) (.iface tp (.pointer (some ⟨c,u,none⟩)))).run P w=.ok () w:=by
    unfold eqGuard;simp
  have hq:=Pj hu hp hi1 KV FD vy hr;have e:(execOp a.eval o).run P w=.ok (.value (.bool z)) w':=by
    simp only[execOp,ho,bf ha.fr hx,bf ha.fr hy,Sem.run_bind,hg,hq,Result.andThen_ok,Sem.run_pure]
  unfold Oper.wp;rw[e];simp only[Oper.upon,hd];refine lY _ _ ⟨_,_,⟨z,rfl,rfl⟩,?_⟩;rcases hw with rfl|rfl
  · exact ha.put hn _
  · exact ha.drew.put hn _
end
theorem aI.part {P:Program} {f:FuncId} {args:List Value} {l r:List au} {dx:Value→List au→Prop} {s t:au} (jz:∀w:World,s.oh w→t.oh w) (l7:∀b j:Nat,t.has b j→s.has b j) (h:aI P f args l (t::r) dx):aI P f args l (s::r) dx:=by
  refine⟨h.can,fun w gV=>?_⟩;have abQ:St l (t::r) w:=⟨gV.hl,fun x hx=>by
    rcases List.mem_cons.1 hx with h'|h'
    · subst h';exact jz w (gV.hr _ List.mem_cons_self)
    · exact gV.hr x (List.mem_cons_of_mem _ h'),gV.pw,fun x hx y hy=>by
    rcases List.mem_cons.1 hy with h'|h'
    · subst h';exact fun b' j h1 h2=>gV.lr x hx _ List.mem_cons_self b' j h1 (l7 b' j h2)
    · exact gV.lr x hx y (List.mem_cons_of_mem _ h')⟩
  refine(h.run w abQ).mono fun e w' ⟨v,l',h1,h2,h3,h4,h5⟩=>⟨v,l',h1,h2,h3,⟨h4.hl,?_,h4.pw,?_⟩,h5⟩
  · intro x hx;exact(gV.hr x hx).iw h3 fun t ht=>gV.lr t ht x hx
  · intro x hx y hy;intro b' j h6 h7;rcases h5 x hx b' j h6 with ⟨u,hu,YQ⟩|wC
    · exact gV.lr u hu y hy b' j YQ h7
    · have:=(gV.hr y hy).lt h7;omega
theorem aI.rd {P:Program} {f:FuncId} {args:List Value} {l r:List au} {dx:Value→List au→Prop} {q:Option Addr} {n j:Nat} {row:List Value} {s:au} (hR:Rd q n 1 row s j) (h0:0<n) (h:aI P f args l (⟨s.b,s.o+j,row,none⟩::r) dx):aI P f args l (s::r) dx:=by
  have hl:=hR.len;have hle:j+row.length≤s.cs.length:=by
    have h1:=congrArg List.length hR.cs;grind
  refine aI.part (t:=⟨s.b,s.o+j,row,none⟩) (fun w hw=>⟨fun i v hi=>?_,fun i hi=>?_,fun x hx=>by cases hx⟩) (fun b i h1=>⟨h1.1,?_,?_⟩) h
  · have eU:i<row.length:=(List.getElem?_eq_some_iff.1 hi).1;have:=hw.1 (j+i) v (by rw[hR.get eU];exact hi);grind
  · show w.frozen? ⟨s.b,s.o+j+i,none⟩=false;have hi':i<row.length:=hi;rw[Nat.add_assoc];exact hw.2.1 (j+i) Om
  · have h2:s.o+j≤i:=h1.2.1;omega
  · have h2:i<s.o+j+row.length:=h1.2.2;omega
theorem GG {Y:List (List Nat)} {i:Nat} (h:i<Y.length):(Y.drop i).flatten=Y.getD i []++(Y.drop (i+1)).flatten:=by
  rw[List.drop_eq_getElem_cons h,List.flatten_cons];simp[List.getD_eq_getElem?_getD,List.getElem?_eq_getElem h]
theorem tS {Y:List (List Nat)} {i:Nat} (h:i<Y.length):((Y.drop i).flatten).length=(Y.getD i []).length+((Y.drop (i+1)).flatten).length:=by
  rw[GG h,List.length_append]
theorem U8.ten {ls xs:List Nat} {sg:Nat} {Y:List (List Nat)} (h:U8 ls xs sg 4 Y):4≤Y.flatten.length:=by
  have hL:=h.len;have g:∀j,j<4→1≤(Y.getD j []).length:=fun j hj=>by rw[(h.get j hj).1.len];omega
  have e:Y.flatten=(Y.drop 0).flatten:=rfl;have h0:((Y.drop 0).flatten).length=(Y.getD 0 []).length+((Y.drop 1).flatten).length:=tS Om;have h1:((Y.drop 1).flatten).length=(Y.getD 1 []).length+((Y.drop 2).flatten).length:=tS Om;have h2:((Y.drop 2).flatten).length=(Y.getD 2 []).length+((Y.drop 3).flatten).length:=tS Om;have h3:((Y.drop 3).flatten).length=(Y.getD 3 []).length+((Y.drop 4).flatten).length:=tS Om;have g0:=g 0 Om;have g1:=g 1 Om;have g2:=g 2 Om;have g3:=g 3 Om;rw[e];omega
theorem JW {ds text z0 z1 z2 z3:List Nat} {ev pn ob a0 a1 a2 a3:Nat} (h0:aH ds text (ev*0) pn) (h1:aH ds text (ev*1) pn) (h2:aH ds text (ev*2) pn) (h3:aH ds text (ev*3) pn) (x0:Row z0 text a0 ob∧z0.length=ob) (x1:Row z1 text a1 ob∧z1.length=ob) (x2:Row z2 text a2 ob∧z2.length=ob) (x3:Row z3 text a3 ob∧z3.length=ob) (e:a0=pn∧a1=pn+ev∧a2=pn+ev*2∧a3=pn+ev*3∧pn+ev*3+ob≤text.length) (hd:ds.length=text.length):∃d0 d1 d2 d3,d0=cK ds pn z0∧d1=cK d0 (pn+ev) z1∧d2=cK d1 (pn+ev*2) z2∧d3=cK d2 (pn+ev*3) z3∧d0.length=text.length∧d1.length=text.length∧d2.length=text.length∧d3.length=text.length∧aH d3 text (ev*0) (pn+ob)∧aH d3 text (ev*1) (pn+ob)∧aH d3 text (ev*2) (pn+ob)∧aH d3 text (ev*3) (pn+ob):=by
  have l0:=(aV (xs:=ds) (j:=pn) (ys:=z0) Om).trans hd;have l1:=(aV (xs:=cK ds pn z0) (j:=pn+ev) (ys:=z1) Om).trans l0;have l2:=(aV (xs:=cK (cK ds pn z0) (pn+ev) z1) (j:=pn+ev*2) (ys:=z2) Om).trans l1;have l3:=(aV (xs:=cK (cK (cK ds pn z0) (pn+ev) z1) (pn+ev*2) z2) (j:=pn+ev*3) (ys:=z3) Om).trans l2;have k:∀{d z:List Nat} {a n j a':Nat},aH d text a n→Row z text a' ob∧z.length=ob→j+ob≤d.length→a'=j→aH (cK d j z) text a n:=fun g x h e=>g.iw x.1 ⟨h,x.2,e⟩
  have m:∀{d z:List Nat} {a n j a':Nat},aH d text a n→Row z text a' ob∧z.length=ob→j+ob≤d.length→a'=j→a+n=j→aH (cK d j z) text a (n+ob):=fun g x h e e'=>g.more x.1 ⟨h,x.2,e,e'⟩
  refine⟨_,_,_,_,rfl,rfl,rfl,rfl,l0,l1,l2,l3,?_,?_,?_,?_⟩
  · exact k (k (k (m h0 x0 Om Om Om) x1 Om Om) x2 Om Om) x3 Om Om
  · exact k (k (m (k h1 x0 Om Om) x1 Om Om Om) x2 Om Om) x3 Om Om
  · exact k (m (k (k h2 x0 Om Om) x1 Om Om) x2 Om Om Om) x3 Om Om
  · exact m (k (k (k h3 x0 Om Om) x1 Om Om) x2 Om Om) x3 Om Om Om
theorem Lb {xs:List Nat} {q j:Nat}:vE xs q j=Md xs q j:=by
  unfold vE Md;have e:(j+1)*q=j*q+q:=by rw[Nat.add_mul,Nat.one_mul]
  by_cases h:(j+1)*q≤xs.length
  · rw[show min ((j+1)*q) xs.length-j*q=q by omega]
  · rw[List.take_of_length_le Oz,List.take_of_length_le Oz]
theorem mG.text {ls xs zs:List Nat} (h:mG ls xs zs) (he:gS ls) (hl:ls.length=256) (hc:JV ls xs) (hb:Bytes xs):Pa true ls xs zs:=by
  obtain⟨Y,hF,hz9⟩:=h;refine⟨Y,hF.len,fun j hj=>?_,?_⟩
  · obtain⟨h1,h2⟩:=hF.get j hj;rw[Lb];exact⟨he,fun c uz=>⟨by rw[hl];exact hb c (tQ uz),hc.len c (tQ uz)⟩,h1.bytes,⟨h1.len,h2⟩,h1.val⟩
  · rw[hz9];unfold hz;rw[hF.len];simp
theorem mG.four {ls xs zs:List Nat} {n:Nat} (h:mG ls xs zs) (he:gS ls) (hl:ls.length=256) (hc:JV ls xs) (hb:Bytes xs) (hn:xs.length=n) (zh:10≤n):∃bJ bU cc cT,Gg zs xs ls ((n+3)/4) (n-3*((n+3)/4)) bJ bU cc cT∧zs.length≤1048576:=by
  subst hn;exact(h.text he hl hc hb).four Om
end Go.Proofs.YtekcchgffhphbaaGreatDoor
