/- The walk's own engine and plain laws, part 2. -/
import Derived.Test.YtekcchgffhphbaaGreatDoorP1
import Derived.Lib.AppendZerosOnto
import Derived.LaidEql
set_option linter.unusedVariables false
set_option linter.unusedSimpArgs false
namespace Go.Proofs.YtekcchgffhphbaaGreatDoor
def hB (CN:List Nat) (x:Nat):Nat:=aq (CN.getD x 0+1)-1
theorem AJ {CN:List Nat} {x:Nat} (h:CN.getD x 0≤262144):hB CN x≤18:=by
  unfold hB;have:aq (CN.getD x 0+1)≤19:=cS Om;omega
theorem XG {CN:List Nat} {x y:Nat} (h:hB CN x<hB CN y):CN.getD x 0≤CN.getD y 0:=by
  unfold hB at h;have h1:=iD (CN.getD x 0+1);have h2:=tf (show 0<CN.getD y 0+1 by omega);have h3:=dA (show 0<CN.getD x 0+1 by omega);have h4:2^aq (CN.getD x 0+1)≤2^(aq (CN.getD y 0+1)-1):=Nat.pow_le_pow_right Om Om;omega
def bq (h:Nat→Nat) (len:Nat):Nat→Nat
  |0=>len
  |r+1=>bk h len r
theorem BV (h:Nat→Nat) (len n:Nat):bq h len (n+1)+lx h n len=bq h len n:=by
  cases n with
  |zero=>exact tH h len
  |succ n=>exact qI h n len
theorem ye {P:Nat→Bool}:∀{n:Nat},(∀x,x<n→P x=false)→ct P n=0
  |0,_=>rfl
  |n+1,h=>by simp only[ct];rw[ye fun x hx=>h x Om,h n Om];rfl
theorem G6 {h:Nat→Nat} {len r:Nat} (hr:∀x,x<len→h x≤r):bk h len r=0:=ye fun x hx=>acw (by have:=hr x hx;omega)
theorem XH {h:Nat→Nat} {len r n:Nat} (hr:∀x,x<len→h x<r) (hn:n≤len):lx h r n=0:=ye fun x hx=>O4 (by have:=hr x Om;omega)
theorem Em {h:Nat→Nat} {r n:Nat}:lx h r (n+1)=lx h r n+if h n=r then 1 else 0:=by
  grind [lx,ct,acx,O4]
section
variable {h:Nat→Nat} {K:List Nat} {len n:Nat}
def K0 (h:Nat→Nat) (K:List Nat) (n:Nat):Prop:=K.length=64∧(∀r,r<32→K.getD (r*2) 0=lx h r n)∧∀r,r<32→K.getD (r*2+1) 0=0
def K1 (h:Nat→Nat) (len:Nat) (K:List Nat) (n:Nat):Prop:=K.length=64∧(∀r,r<32→K.getD (r*2) 0=if n≤r then bq h len r else lx h r len)∧∀r,r<32→K.getD (r*2+1) 0=0
def K2 (h:Nat→Nat) (len:Nat) (K:List Nat) (n:Nat):Prop:=K.length=64∧(∀r,r<32→K.getD (r*2) 0=bq h len r)∧∀r,r<32→K.getD (r*2+1) 0=if r<n then bq h len r else 0
def K3 (h:Nat→Nat) (len:Nat) (K:List Nat) (n:Nat):Prop:=K.length=64∧(∀r,r<32→K.getD (r*2) 0=bq h len r)∧∀r,1≤r→r<32→K.getD (r*2+1) 0=bq h len r+lx h (r-1) n
theorem mN (n i:Nat):(List.replicate n 0).getD i 0=0:=by
  grind
theorem K0.begin:K0 h (List.replicate 64 0) 0:=⟨List.length_replicate,fun r hr=>mN 64 _,fun r hr=>mN 64 _⟩
theorem K0.step (hk:K0 h K n) {r:Nat} (hr:r=h n) (q6:r<32):K0 h (K.set (r*2) (K.getD (r*2) 0+1)) (n+1):=by
  obtain⟨h1,h2,h3⟩:=hk;refine⟨by simp[h1],fun q hq=>?_,fun q hq=>?_⟩
  · grind [aS,Em]
  · grind
theorem K0.next (hk:K0 h K len) (hh:∀x,x<len→h x≤18):K1 h len K 19:=by
  obtain⟨h1,h2,h3⟩:=hk;refine⟨h1,fun r hr=>?_,h3⟩;rw[h2 r hr];split
  · rename_i h9;rw[XH (len:=len) (fun x hx=>by have:=hh x hx;omega) (Nat.le_refl _)];cases r with
    |zero=>omega
    |succ r=>exact(G6 fun x hx=>by have:=hh x hx;omega).symm
  · rfl
theorem K1.step (hk:K1 h len K n) (h1:1≤n) (hn:n≤19):K1 h len (K.set ((n-1)*2) (K.getD ((n-1)*2) 0+K.getD (n*2) 0)) (n-1):=by
  obtain⟨hl,h2,h3⟩:=hk;refine⟨by simp[hl],fun r hr=>?_,fun q hq=>?_⟩
  · rw[aS Om];by_cases e:n-1=r
    · subst e;rw[if_pos rfl,h2 _ hr,h2 n Om,if_neg Om,if_pos (Nat.le_refl _),if_pos (Nat.le_refl _), ←BV h len (n-1),show n-1+1=n by omega,Nat.add_comm]
    · grind
  · grind
theorem K1.next (hk:K1 h len K 0):K2 h len K 0:=by
  obtain⟨hl,h2,h3⟩:=hk;refine⟨hl,fun r hr=>?_,fun r hr=>by rw[if_neg Om];exact h3 r hr⟩;grind
theorem K2.step (hk:K2 h len K n) (hn:n<32):K2 h len (K.set (n*2+1) (K.getD (n*2) 0)) (n+1):=by
  obtain⟨hl,h2,h3⟩:=hk;refine⟨by simp[hl],fun r hr=>?_,fun r hr=>?_⟩
  · grind
  · grind
theorem K2.next (hk:K2 h len K 19) (hh:∀x,x<len→h x≤18):K3 h len K 0:=by
  obtain⟨hl,h2,h3⟩:=hk;refine⟨hl,h2,fun r h1 hr=>?_⟩;rw[h3 r hr];have:lx h (r-1) 0=0:=rfl;rw[this];split
  · rfl
  · rename_i h9;cases r with
    |zero=>omega
    |succ r=>exact(G6 fun x hx=>by have:=hh x hx;omega).symm
theorem K3.step (hk:K3 h len K n) {r:Nat} (hr:r=h n+1) (q6:r<32):K3 h len (K.set (r*2+1) (K.getD (r*2+1) 0+1)) (n+1):=by
  obtain⟨hl,h2,h3⟩:=hk;refine⟨by simp[hl],fun q hq=>?_,fun q h1 hq=>?_⟩
  · grind
  · grind [aS,Em]
theorem K3.at_ (hk:K3 h len K n) {r:Nat} (hr:r=h n+1) (q6:r<32):K.getD (r*2) 0=bk h len (h n)∧K.getD (r*2+1) 0=bk h len (h n)+lx h (h n) n:=by
  obtain⟨hl,h2,h3⟩:=hk;subst hr;exact⟨h2 _ q6,h3 _ Om q6⟩
end
def zz (Z:List Nat) (i:Nat):Nat × Nat:=(cZ Z (1+i),sZ Z (1+i))
theorem Pv {Z Z':List Nat} {i j:Nat} (h:Z.getD (1+i) 0=Z'.getD (1+j) 0):zz Z i=zz Z' j:=by unfold zz cZ sZ;rw[h]
theorem aku {Z:List Nat} {i c s:Nat} (h:Z.getD (1+i) 0=XF c s) (hc:c<4294967296) (hs:s<256):zz Z i=(c,s):=by
  grind [zz,cZ,sZ,XF]
structure XI (Z0 Z:List Nat) (c b p p0:Nat):Prop where
  pb:b≤p∧p≤p0∧p0≤255
  len:Z.length=513
  z1:∀i,i<p→Z.getD (1+i) 0=Z0.getD (1+i) 0
  z3:∀i,p≤i→i<p0→Z.getD (1+(i+1)) 0=Z0.getD (1+i) 0
  z4:∀i,p0<i→Z.getD (1+i) 0=Z0.getD (1+i) 0
  hi:∀i,p≤i→i<p0→cZ Z0 (1+i)<c
section
variable {Z0 Z:List Nat} {c b p p0:Nat}
theorem XI.begin (h1:b≤p0) (h2:p0≤255) (hl:Z0.length=513):XI Z0 Z0 c b p0 p0:=⟨⟨h1,Nat.le_refl _,h2⟩,hl,fun _ _=>rfl,fun i h3 h4=>Om,fun _ _=>rfl,fun i h3 h4=>Om⟩
theorem XI.step (h:XI Z0 Z c b p p0) (hp:b<p) {y:Nat} (hy:y=Z.getD (1+(p+511)%512) 0) (hc:y%4294967296<c):XI Z0 (Z.set (1+p) y) c b (p-1) p0:=by
  obtain⟨h1,h2,h3⟩:=h.pb;have hl:=h.len;have e:(p+511)%512=p-1:=Om;rw[e] at hy;have vj:y=Z0.getD (1+(p-1)) 0:=by rw[hy];exact h.z1 (p-1) Om
  refine⟨⟨Om,Om,h3⟩,by simp[hl],fun i hi=>?_,fun i hi hj=>?_,fun i hi=>?_,fun i hi hj=>?_⟩
  · rw[aS Om,if_neg Om];exact h.z1 i Om
  · rw[aS Om];by_cases e2:i+1=p
    · grind
    · rw[if_neg Om];exact h.z3 i Om hj
  · rw[aS Om,if_neg Om];exact h.z4 i hi
  · by_cases e2:i+1=p
    · grind [cZ]
    · exact h.hi i Om hj
theorem XI.fin {len n:Nat} {CN:List Nat} (h:XI Z0 Z (CN.getD n 0) (bk (hB CN) len (hB CN n)) p (bk (hB CN) len (hB CN n)+lx (hB CN) (hB CN n) n)) (H:HS len (fun x=>CN.getD x 0) (hB CN) n (zz Z0)) (hn:n<len) (hl:len≤256) (hc:CN.getD n 0≤262144)
    (r':p=bk (hB CN) len (hB CN n)∨CN.getD n 0≤Z.getD (1+(p+511)%512) 0%4294967296):HS len (fun x=>CN.getD x 0) (hB CN) (n+1) (zz (Z.set (1+p) (XF (CN.getD n 0) n))):=by
  obtain⟨h1,h2,h3⟩:=h.pb;have hlen:=h.len;refine H.put hn ⟨h1,h2⟩ ?_ (fun i hi hj=>h.hi i hi hj) (fun i hi=>?_) ?_ (fun i hi hj=>?_) (fun i hi=>?_)
  · rcases r' with r'|r'
    · omega
    · by_cases e:p=bk (hB CN) len (hB CN n)
      · exact .inl e
      · right;rw[show(p+511)%512=p-1 by omega,h.z1 (p-1) Om] at r';exact r'
  · exact Pv (by rw[aS Om,if_neg Om];exact h.z1 i hi)
  · grind [aku,aS]
  · exact Pv (by rw[aS Om,if_neg Om];exact h.z3 i hi hj)
  · exact Pv (by rw[aS Om,if_neg Om];exact h.z4 i hi)
end
structure zG (CN Z:List Nat) (len:Nat):Prop where
  BH:∀i,i<len→∃x,x<len∧cZ Z (1+i)=CN.getD x 0∧sZ Z (1+i)=x
  Pw:∀x,x<len→∃i,i<len∧cZ Z (1+i)=CN.getD x 0∧sZ Z (1+i)=x
  mK:∀i j,i≤j→j<len→cZ Z (1+j)≤cZ Z (1+i)
theorem zG.of {CN Z:List Nat} {len:Nat} (H:HS len (fun x=>CN.getD x 0) (hB CN) len (zz Z)) (hh:∀x,x<len→CN.getD x 0≤262144):zG CN Z len:=by
  obtain⟨h1,h2,h3⟩:=H.fin (R:=18) (G6 fun x hx=>AJ (hh x hx)) fun x y _ _ h=>XG h
  refine⟨fun i hi=>?_,fun x hx=>?_,fun i j D5 hj=>h3 i j D5 hj⟩
  · obtain⟨x,a,b⟩:=h1 i hi;exact⟨x,a,congrArg Prod.fst b,congrArg Prod.snd b⟩
  · obtain⟨i,a,b⟩:=h2 x hx;exact⟨i,a,congrArg Prod.fst b,congrArg Prod.snd b⟩
theorem G7 {x:Nat}:x&&&511=x%512:=Nat.and_two_pow_sub_one_eq_mod x 9
theorem Kk {p:Nat} (h:p≤1000):(p+4294967296-1)%4294967296&&&511=(p+511)%512:=by rw[G7];omega
theorem acR {CN:List Nat} {x:Nat} (h:CN.getD x 0≤262144):aq (CN.getD x 0+1)-1&&&31=hB CN x:=by
  have:=AJ h;rw[show(31:Nat)=2^5-1 from rfl,Nat.and_two_pow_sub_one_eq_mod];grind [hB]
theorem acS {CN:List Nat} {x:Nat} (h:CN.getD x 0≤262144):aq (CN.getD x 0+1)-1+1&&&31=hB CN x+1:=by
  have:=AJ h;rw[show(31:Nat)=2^5-1 from rfl,Nat.and_two_pow_sub_one_eq_mod];grind [hB]
def bL (Z:List Nat) (N:Nat):List Nat:=(List.range N).map fun i=>bZ Z (1+i)
theorem ek (Z:List Nat) (N:Nat):(bL Z N).length=N:=by simp[bL]
theorem fe {Z:List Nat} {N i:Nat} (h:i<N):(bL Z N).getD i 0=bZ Z (1+i):=by simp[bL,List.getD_eq_getElem?_getD,h]
theorem Px {Z:List Nat} {N p n:Nat} (hp:p<N) (hl:N<Z.length) (hn:n<256):bL (Z.set (1+p) (og (Z.getD (1+p) 0) n)) N=(bL Z N).set p n:=by
  refine tQ (by rw[List.length_set,ek,ek]) fun i hi=>?_
  grind [ek,fe,G5,acs]
def px (Z0 Z:List Nat):Prop:=∀i,cZ Z i=cZ Z0 i∧sZ Z i=sZ Z0 i
theorem px.XJ (Z:List Nat):px Z Z:=fun i=>⟨rfl,rfl⟩
theorem px.B {Z0 Z:List Nat} (h:px Z0 Z) {j n:Nat} (hj:j<Z.length) (hn:n<256):px Z0 (Z.set j (og (Z.getD j 0) n)):=fun i=>by rw[akq hj hn,akr hj hn];exact h i
structure V1 (b0:Nat→Nat) (L N:Nat):Prop where
  N2:2≤N∧N≤256
  mK:∀i j,i≤j→j<N→b0 i≤b0 j
  sR:∀i,i<N→1≤b0 i∧b0 i≤L
  top:b0 (N-1)=L
  sum:sm (fun i=>2^(L-b0 i)) N=2^L
section
variable {b0:Nat→Nat} {L N M q tc:Nat} {Z Z0:List Nat}
theorem V1.first (h:V1 b0 L N) (hN:N≤2^M) (hL:M<L):b0 0≤M:=by
  apply Classical.byContradiction;intro hn;have h1:sm (fun i=>2^(L-b0 i)) N≤sm (fun _=>2^(L-M-1)) N:=J4 fun i hi=>by
    have h2:=h.mK 0 i (Nat.zero_le _) hi;exact Nat.pow_le_pow_right Om Om
  rw[h.sum,fV] at h1;have h3:N*2^(L-M-1)≤2^M*2^(L-M-1):=Nat.mul_le_mul_right _ hN;rw[←Nat.pow_add] at h3;have h4:2^(M+(L-M-1))<2^L:=Nat.pow_lt_pow_right Om Om;omega
structure Cut (b0:Nat→Nat) (L N M:Nat) (Z:List Nat) (q tc:Nat):Prop where
  ql:q<N
  bits:∀i,i<N→bZ Z (1+i)=if i≤q then b0 i else M
  hi:∀i,q<i→i<N→M<b0 i
  cost:tc=sm (fun j=>2^(L-M)-2^(L-b0 (q+1+j))) (N-1-q)
theorem Cut.begin (h:V1 b0 L N) (hb:∀i,i<N→bZ Z (1+i)=b0 i):Cut b0 L N M Z (N-1) 0:=by
  have:=h.N2;exact⟨Om,fun i hi=>by rw[if_pos Om];exact hb i hi,fun i h1 h2=>Om,by rw[show N-1-(N-1)=0 by omega];rfl⟩
theorem Cut.small (h:Cut b0 L N M Z q tc) (hH:V1 b0 L N) (hL:L≤40):tc≤256*2^40:=by
  have h1:tc≤sm (fun _=>2^40) (N-1-q):=by
    rw[h.cost];exact J4 fun j hj=>by
      have:2^(L-M)≤2^40:=Nat.pow_le_pow_right Om Om;grind
  rw[fV] at h1;have:=hH.N2;grind
theorem Cut.step (h:Cut b0 L N M Z q tc) (hH:V1 b0 L N) (hN:N≤2^M) (hML:M<L) (hq:M<bZ Z (1+q)) (hl:N<Z.length) (hM:M<256):1≤q∧Cut b0 L N M (Z.set (1+q) (og (Z.getD (1+q) 0) M)) (q-1) (tc+(2^(L-M)-2^(L-bZ Z (1+q)))):=by
  have hb:=h.bits q h.ql;rw[if_pos (Nat.le_refl _)] at hb;rw[hb] at hq ⊢;have hf:=hH.first hN hML
  have MJ:1≤q:=by
    grind
  have hql:=h.ql;refine⟨MJ,Om,fun i hi=>?_,fun i h1 h2=>?_,?_⟩
  · rw[G5 Om hM];by_cases e:i=q
    · grind
    · rw[if_neg Om,h.bits i hi];grind
  · by_cases e:i=q
    · grind
    · exact h.hi i Om h2
  · rw[show N-1-(q-1)=(N-1-q)+1 by omega,kk,h.cost,show q-1+1+0=q by omega,Nat.add_comm];grind
structure Cud (M N:Nat) (Z:List Nat) (T:Nat):Prop where
  mK:∀i j,i≤j→j<N→bZ Z (1+i)≤bZ Z (1+j)
  sR:∀i,i<N→1≤bZ Z (1+i)∧bZ Z (1+i)≤M
  T1:1≤T
  sum:kr M (bL Z N)=2^M+T
  mm:T<lv M (bL Z N)
theorem Cut.fin (h:Cut b0 L N M Z q tc) (hH:V1 b0 L N) (hML:M<L) (hM:1≤M) (hq:bZ Z (1+q)≤M):Cud M N Z (tc/2^(L-M))∧∀i,q<i→i<N→bZ Z (1+i)=M:=by
  have hb:=h.bits q h.ql;rw[if_pos (Nat.le_refl _)] at hb;have hql:=h.ql;have hN:=hH.N2;have hqN:q+1<N:=by
    apply Classical.byContradiction;intro hn;have:q=N-1:=Om;rw[hb,this,hH.top] at hq;omega
  have h1:∀i,i≤q→b0 i≤M:=fun i hi=>by have:=hH.mK i q hi hql;omega
  obtain⟨T,t1,t2,t3,t4⟩:=acv (bs:=bL Z N) hML hqN h1 (fun i a b=>⟨h.hi i a b,(hH.sR i b).2⟩) hH.sum (ek Z N) (fun i hi=>by rw[fe hi];exact h.bits i hi);have hT:tc/2^(L-M)=T:=by rw[h.cost,t1,Nat.mul_div_cancel _ (Nat.two_pow_pos _)]
  rw[hT];refine⟨⟨fun i j D5 hj=>?_,fun i hi=>?_,t2,t3,t4⟩,fun i a b=>by rw[h.bits i b,if_neg Om]⟩
  · rw[h.bits i Om,h.bits j hj];have:=hH.mK i j D5 hj;grind
  · rw[h.bits i hi];have:=hH.sR i hi;grind
theorem Cud.short {T:Nat} (h:Cud M N Z T) (hN:N≤2^M):∃i,i<N∧bZ Z (1+i)<M:=by
  apply Classical.byContradiction;intro hn;have ha:∀i,i<(bL Z N).length→(bL Z N).getD i 0=M:=fun i hi=>by
    rw[ek] at hi;rw[fe hi];have h1:=h.sR i hi;grind
  have h1:=GU ha;have h2:=h.sum;have h3:=h.T1;grind [ek]
theorem Cud.prev {T:Nat} (h:Cud M N Z T) (hN:N≤2^M) (ha:∀i,q<i→i<N→bZ Z (1+i)=M) (hq:bZ Z (1+q)=M):1≤q:=by
  obtain⟨i,hi,hl⟩:=h.short hN;grind
end
theorem En {Z:List Nat} {q N M:Nat} (ha:∀i,q<i→i<N→bZ Z (1+i)=M) (hq:bZ Z (1+q)=M) (h1:1≤q):∀i,q-1<i→i<N→bZ Z (1+i)=M:=fun i h2 h3=>by
  grind
structure MK (M N:Nat) (Z:List Nat) (q k cu:Nat) (rl:List Nat):Prop where
  len:rl.length=13
  kq:k≤q+1
  cu1:k≤q→cu=bZ Z (1+k)
  cu2:k=q+1→cu=M
  rk:∀j,1≤j→j≤12→(rl.getD j 0=mX∧∀i,k≤i→i<N→bZ Z (1+i)+j≠M)∨(rl.getD j 0<N∧bZ Z (1+rl.getD j 0)+j=M∧∀i,rl.getD j 0<i→i<N→bZ Z (1+i)+j≠M)
section
variable {M N q k cu T:Nat} {Z rl:List Nat}
theorem MK.begin (hl:rl.length=13) (hr:∀i,i<13→rl.getD i 0=mX) (ha:∀i,q<i→i<N→bZ Z (1+i)=M):MK M N Z q (q+1) M rl:=
  ⟨hl,Nat.le_refl _,fun h=>Om,fun _=>rfl,fun j h1 h2=>.inl ⟨hr j Om,fun i h3 h4=>by rw[ha i Om h4];omega⟩⟩
theorem MK.same (h:MK M N Z q k cu rl) (hc:Cud M N Z T) (hk:1≤k) (hq:q<N) (hqM:bZ Z (1+q)≠M) (hb:¬bZ Z (1+(k-1))<cu):MK M N Z q (k-1) cu rl:=by
  have hkq:=h.kq;have h1:=hc.mK (k-1) q Om hq;have h2:=hc.sR q hq;have uA:k≤q:=by
    apply Classical.byContradiction;intro hn;have:=h.cu2 Om;omega
  have hcu:=h.cu1 uA;have h3:=hc.mK (k-1) k Om Om;refine⟨h.len,Om,fun _=>Om,fun _=>Om,fun j j1 j2=>?_⟩;rcases h.rk j j1 j2 with ⟨r1,r2⟩|r
  · grind
  · exact .inr r
theorem MK.new (h:MK M N Z q k cu rl) (hc:Cud M N Z T) (hk:1≤k) (hq:q<N) (ha:∀i,q<i→i<N→bZ Z (1+i)=M) (hM:M≤11) (hb:bZ Z (1+(k-1))<cu):MK M N Z q (k-1) (bZ Z (1+(k-1))) (rl.set (M-bZ Z (1+(k-1))) (k-1)):=by
  have hkq:=h.kq;have hl:=h.len;have hr:=hc.sR (k-1) Om;have hcM:cu≤M:=by
    rcases Nat.lt_or_ge q k with e|e
    · have:=h.cu2 Om;omega
    · have:=h.cu1 e;have:=hc.sR k Om;omega
  have hup:∀i,k≤i→i<N→cu≤bZ Z (1+i):=fun i h1 h2=>by
    rcases Nat.lt_or_ge q k with e|e
    · grind
    · rw[h.cu1 e];exact hc.mK k i h1 h2
  refine⟨by simp[hl],Om,fun _=>by rw[show 1+(k-1)=1+(k-1) from rfl],fun _=>Om,fun j j1 j2=>?_⟩;rw[aS Om];by_cases e:M-bZ Z (1+(k-1))=j
  · grind
  · rw[if_neg e];rcases h.rk j j1 j2 with ⟨r1,r2⟩|r
    · grind
    · exact .inr r
theorem MK.fin (h:MK M N Z q 0 cu rl) (hc:Cud M N Z T) (hM:M≤11) (hN:N≤256) (Ei:N≤2^M):xZ M (bL Z N) ((T:Nat):Int) rl:=by
  have hT:=hc.T1;have hs:=hc.sum;have hm:=hc.mm;refine⟨hM,by rw[ek];exact⟨hN,Ei⟩,fun i j D5 hj=>?_,fun i hi=>?_,by rw[hs];push_cast;rfl,⟨Om,Om⟩,fun h9=>Om,h.len,fun j j1 j2=>?_⟩
  · rw[ek] at hj;rw[fe Om,fe hj];exact hc.mK i j D5 hj
  · rw[ek] at hi;rw[fe hi];exact hc.sR i hi
  · rcases h.rk j j1 j2 with ⟨r1,r2⟩|⟨r1,r2,r3⟩
    · refine .inl ⟨r1,fun i hi=>?_⟩;grind [ek,fe]
    · refine .inr ⟨by rw[ek];exact r1,by rw[fe r1];exact r2,fun i h4 hi=>?_⟩;grind [ek,fe]
end
section
variable {M N q k:Nat} {Z rl:List Nat} {T:Int}
theorem xZ.atZ (h:xZ M (bL Z N) T rl) {k:Nat} (h1:1≤k) (h2:k≤12) (hk:rl.getD k 0≠mX):rl.getD k 0<N∧bZ Z (1+rl.getD k 0)+k=M∧1≤bZ Z (1+rl.getD k 0):=by
  obtain⟨a,b,c⟩:=h.at_ h1 h2 hk;have d:=h.sR _ a;grind [ek,fe]
theorem xZ.small (h:xZ M (bL Z N) T rl):T≤256:=by
  have h1:=h.mm;have h2:=BE (M:=M) (bs:=bL Z N);have h3:=h.len.1;omega
theorem xZ.AD (h:xZ M (bL Z N) T rl) (hT:0<T) {k p:Nat} (h1:1≤k) (h2:k≤12) (hk:rl.getD k 0≠mX) (hp:p=rl.getD k 0) (hl:N<Z.length)
    (hc:2^(k-1)≤T.toNat∨∀j,1≤j→j<k→rl.getD j 0=mX) {r1 rl':List Nat} (F9:r1=if rl.getD (k-1) 0=mX then rl.set (k-1) p else rl)
    (hrl:(p=0∧rl'=r1.set k mX)∨(p≠0∧bZ Z (1+(p-1))+k=M∧rl'=r1.set k (p-1))∨(p≠0∧bZ Z (1+(p-1))+k≠M∧rl'=r1.set k mX)) {w:Nat} (hw:w=1+bZ Z (1+p)):
    xZ M (bL (Z.set (1+p) (og (Z.getD (1+p) 0) w)) N) (T-((2^(k-1):Nat):Int)) rl':=by
  subst hp;obtain⟨a,b,c⟩:=h.atZ h1 h2 hk;have ML:w=M-k+1:=Om;have hM:=h.M11;rw[Px a hl Om,ML];have hs:=h.step hT h1 h2 hk (by
    grind)
  grind [vc,bL,fe]
theorem sd {p w:Nat} (ha:∀i,q<i→i<N→bZ Z (1+i)=M) (hp:p<N) (hb:bZ Z (1+p)≠M) (hl:N<Z.length) (hw:w<256):∀i,q<i→i<N→bZ (Z.set (1+p) (og (Z.getD (1+p) 0) w)) (1+i)=M:=fun i h1 h2=>by
  grind [G5]
theorem xZ.atm (h:xZ M (bL Z N) T rl) (hT:T≤0) (hq:q<N) (ha:∀i,q<i→i<N→bZ Z (1+i)=M):x4 M (bL Z N) T (rl.getD 1 0) q:=
  h.pay hT ⟨by rw[ek];exact hq,fun i h1 h2=>by rw[ek] at h2;rw[fe h2];exact ha i h1 h2⟩
theorem x4.prev {v n:Nat} (h:x4 M (bL Z N) T v n) (hT:T<0) (ha:∀i,q<i→i<N→bZ Z (1+i)=M) (hq:bZ Z (1+q)=M):1≤q:=by
  obtain⟨i,hi,hl⟩:=h.ex hT;grind [ek,fe]
theorem x4.nnZ {n:Nat} {v:Nat} (h:x4 M (bL Z N) T v n) (hv:v=mX):n<N∧∀i,n<i→i<N→bZ Z (1+i)=M:=by
  obtain⟨a,b⟩:=h.nn hv;grind [ek,fe]
theorem x4.acT {v n:Nat} (h:x4 M (bL Z N) T v n) (hT:T<0) (hq:q<N) (h2:bZ Z (1+q)≠M) (ha:∀i,q<i→i<N→bZ Z (1+i)=M):q+1<N∧bZ Z (1+(q+1))=M∧∀i,i<q+1→(bL Z N).getD i 0<M:=by
  obtain⟨a,b,c⟩:=h.first hT (n':=q) (by rw[ek];exact hq) (by rw[fe hq];exact h2) (fun i h1 h3=>by rw[ek] at h3;rw[fe h3];exact ha i h1 h3)
  grind [ek,fe]
theorem x4.akv {v n:Nat} (h:x4 M (bL Z N) T v n) (hT:T<0) (hv:v≠mX):v+1<N∧bZ Z (1+(v+1))=M∧∀i,i<v+1→(bL Z N).getD i 0<M:=by
  obtain⟨a,b,c⟩:=h.next hT hv;grind [ek,fe]
theorem x4.akw {v n p w:Nat} (h:x4 M (bL Z N) T v n) (hT:T<0) (hp:p<N) (hM:bZ Z (1+p)=M) (hl:∀i,i<p→(bL Z N).getD i 0<M) (hZ:N<Z.length) (hw:w=bZ Z (1+p)-1) (n':Nat):x4 M (bL (Z.set (1+p) (og (Z.getD (1+p) 0) w)) N) (T+1) p n':=by
  have uF:=h.M11;rw[Px hp hZ Om,hw,hM];exact h.put hT (by rw[ek];exact hp) (by rw[fe hp];exact hM) hl n'
structure Whl (Z:List Nat) (N R:Nat):Prop where
  sR:∀i,i<N→1≤bZ Z (1+i)∧bZ Z (1+i)≤R
  sum:sm (fun i=>2^(R-bZ Z (1+i))) N=2^R
  top:∃i,i<N∧bZ Z (1+i)=R
theorem x4.done {v n:Nat} (h:x4 M (bL Z N) T v n) (hT:¬T<0):Whl Z N M:=by
  have h0:=h.T0;have hs:=h.sum;have hm:=h.mm;have Pc:T=0:=Om;subst Pc;refine⟨fun i hi=>by have:=h.sR i (by rw[ek];exact hi);rwa [fe hi] at this,?_,?_⟩
  · grind [kr,bL,O3,ek,bB,fe]
  · grind [tG,bL,ek,fe]
theorem V1.done {b0:Nat→Nat} {L:Nat} (h:V1 b0 L N) (hb:∀i,i<N→bZ Z (1+i)=b0 i):Whl Z N L:=by
  have hN:=h.N2;refine⟨fun i hi=>by rw[hb i hi];exact h.sR i hi,?_,⟨N-1,Om,by rw[hb _ Om];exact h.top⟩⟩;rw[←h.sum];grind [bB]
end
def BX (ok:Bool) (t:TypeId) (x:Value):Value:=match ok with
  |true=>.nilIface
  |false=>.iface t x
variable {P:Program} {ρ:aB} {o:Oper} {x:Operand}
theorem BY {ms:Array (String × TypeId)} {ok:Bool} {T:TypeId} {u:Value} {ty bY:TypeId} (ho:o.op=.binOp .neq ty x (.const .nilIface) bY) (hx:ev ρ x=some (BX ok T u)) (hu:P.underlying ty=some (.interface ms)):aH P ρ o (.bool (!ok)):=by
  cases ok with
  |true=>exact dj ho hx hu
  |false=>exact gZ ho hx hu
theorem XK {ms:Array (String × TypeId)} {ok:Bool} {T:TypeId} {u:Value} {ty bY:TypeId} (ho:o.op=.binOp .eql ty x (.const .nilIface) bY) (hx:ev ρ x=some (BX ok T u)) (hu:P.underlying ty=some (.interface ms)):aH P ρ o (.bool ok):=by
  cases ok with
  |true=>exact xz ho hx hu
  |false=>exact uR ho hx hu
theorem LK {ty:TypeId} {a:Int} (ho:o.op=.unOp .neg ty x) (hx:ev ρ x=some (.int .i16 a)) (h: -32768≤ -a∧ -a≤32767):aH P ρ o (.int .i16 (-a)):=(ajG ho hx).cast (by rw[IntWalk.i16_in _ h])
def tS (N sl m p u c S B0 B:Nat) (K Q:Nat→Nat):Prop:=Tr N (fun i=>K (1+i)) m p u c S B0 B (fun a=>K (1+sl+a)) (fun i=>Q (1+i)) (fun a=>Q (1+sl+a))
section
variable {N sl m p u c S B0 B:Nat} {K Q:Nat→Nat}
theorem tS.num (h:tS N sl m p u c S B0 B K Q):N-u+c=2*m+p∧u≤N∧c≤m∧p≤2:=Tr.num h
theorem tS.leaf (h:tS N sl m p u c S B0 B K Q) (hN:N≤sl) (hp:p≤1) (hu:0<u) (hc:c=m∨K u≤K (1+sl+c)):tS N sl m (p+1) (u-1) c (S+K u) B0 (K u) K (fun j=>if j=u then m else Q j):=by
  have hn:=h.num;have e:1+(u-1)=u:=Om;have h1:=Tr.leaf h hp hu (by show c=m∨K (1+(u-1))≤_;rw[e];exact hc);simp only[e] at h1;refine h1.congr (fun a ha=>rfl) (fun i h2 h3=>?_) (fun a ha=>?_)
  · grind
  · grind
theorem tS.inner (h:tS N sl m p u c S B0 B K Q) (hN:N≤sl) (hp:p≤1) (uE:c<m) (hc:u=0∨K (1+sl+c)≤K u):tS N sl m (p+1) u (c+1) (S+K (1+sl+c)) B0 (K (1+sl+c)) K (fun j=>if j=1+sl+c then m else Q j):=by
  have hn:=h.num;have h1:=Tr.inner h hp uE (by
    grind)
  refine h1.congr (fun a ha=>rfl) (fun i h2 h3=>?_) (fun a ha=>?_)
  · grind
  · grind
theorem TrC {N m p u c S B0 B:Nat} {C C' CI PL PI:Nat→Nat} (h:Tr N C m p u c S B0 B CI PL PI) (hC:∀i,i<N→C' i=C i):Tr N C' m p u c S B0 B CI PL PI:=by
  have hn:=h.num;have hs:∀n,n≤N→sm C' n=sm C n:=fun n h1=>bB fun i hi=>hC i Om
  constructor
  · exact h.num
  · intro i j a b;rw[hC i Om,hC j b];exact h.mK i j a b
  · exact h.pl
  · exact h.pi
  · exact h.ml
  · exact h.mi
  · exact h.w
  · exact h.bb
  · intro i a b;rw[hC i b];exact h.c1 i a b
  · exact h.c2
  · intro i a;rw[hC i Om];exact h.c3 i a
  · exact h.c4
  · exact h.cs
  · exact h.cm
  · exact h.ti
  · intro i a b d e;rw[hC i b];exact h.g1 i a b d e
  · exact h.g2
  · intro i a b d;rw[hC i b];exact h.q1 i a b d
  · exact h.q2
  · rw[hs u Om,hs N (Nat.le_refl _)];exact h.iZ
theorem tS.node (h:tS N sl m 2 u c S B0 B K Q) {K' Q':Nat→Nat} (hK:∀j,j≠1+sl+m→j≤1+sl+m→K' j=K j) (hKm:K' (1+sl+m)=S) (hN:N≤sl) (hQ:∀j,(u<j∧j≤N)∨(sl<j∧j<1+sl+c)→Q' j=Q j):tS N sl (m+1) 0 u c 0 B B K' Q':=by
  have h1:=Tr.node h;have h2:Tr N (fun i=>K (1+i)) (m+1) 0 u c 0 B B (fun a=>K' (1+sl+a)) (fun i=>Q' (1+i)) (fun a=>Q' (1+sl+a)):=by
    refine h1.congr (fun a ha=>?_) (fun i h2 h3=>hQ _ (.inl ⟨Om,Om⟩)) (fun a ha=>hQ _ (.inr ⟨Om,Om⟩));grind
  have hn:=h.num;exact TrC h2 (fun i hi=>(hK (1+i) Om Om))
theorem tS.begin {N sl:Nat} {K:Nat→Nat} (hs:∀i j,i≤j→j<N→K (1+j)≤K (1+i)) (Q:Nat→Nat):tS N sl 0 0 N 0 0 0 0 K Q:=Tr.begin (C:=fun i=>K (1+i)) (fun i j a b=>hs i j a b) _ _ _
theorem tS.small (h:tS N sl m p u c S B0 B K Q) (h1:c<m):K (1+sl+c)≤sm (fun i=>K (1+i)) N:=by
  have ht:=Tr.iZ h;have h2:=ly (W:=fun a=>K (1+sl+a)) (show c+1≤m by omega);grind [sm]
theorem tS.pick (h:tS N sl m p u c S B0 B K Q) (hN:N≤sl) (hp:p≤1) (hm:m+1<N) (hb:K 0=2147483648) (hf:∀a,m≤a→a+1<N→K (1+sl+a)=1073741824) (hK:sm (fun i=>K (1+i)) N<1073741824):
    (K u<K (1+sl+c)→1≤u∧tS N sl m (p+1) (u-1) c (S+K u) B0 (K u) K (fun j=>if j=u then m else Q j))∧
    (¬K u<K (1+sl+c)→c<m∧tS N sl m (p+1) u (c+1) (S+K (1+sl+c)) B0 (K (1+sl+c)) K (fun j=>if j=1+sl+c then m else Q j)):=by
  have hn:=h.num;have VX:K (1+sl+c)≤1073741824∨c<m:=by
    grind
  constructor
  · intro eV;have hu:1≤u:=by
      apply Classical.byContradiction;intro hu;have e:u=0:=Om;rw[e,hb] at eV;rcases VX with h9|h9
      · omega
      · have:=h.small h9;omega
    exact⟨hu,h.leaf hN hp hu (by
      omega)⟩
  · intro wR;have uE:c<m:=by
      apply Classical.byContradiction;intro F7;have e:c=m:=Om;rw[e,hf m (Nat.le_refl _) hm] at wR;by_cases e0:u=0
      · omega
      · have:=pt (W:=fun i=>K (1+i)) (i:=u-1) (n:=N) Om;grind
    refine⟨uE,h.inner hN hp uE ?_⟩;omega
end
def LL (N sl u c j:Nat):Prop:=(u<j∧j≤N)∨(sl<j∧j<1+sl+c)
structure TW (Z0 Z:List Nat) (N sl m u c B:Nat) (Q:Nat→Nat):Prop where
  tr:tS N sl m 0 u c 0 B B (cZ Z) Q
  kl:∀i,i<N→cZ Z (1+i)=cZ Z0 (1+i)
  par:∀j,LL N sl u c j→pZ Z j=sl+Q j
  sy:∀i,sZ Z i=sZ Z0 i
section
variable {Z0 Z:List Nat} {N sl m u c B:Nat} {Q:Nat→Nat}
theorem TW.begin {CN:List Nat} (hs:zG CN Z0 sl) (hN:N≤sl):TW Z0 Z0 N sl 0 N 0 0 (fun _=>0):=
  ⟨tS.begin (fun i j a b=>hs.mK i j a Om) _,fun _ _=>rfl,fun j h=>by unfold LL at h;omega,fun _=>rfl⟩
theorem tS.acU {p S B0:Nat} {K K':Nat→Nat} (h:tS N sl m p u c S B0 B K Q) (h1:∀i,i<N→K' (1+i)=K (1+i)) (h2:∀a,a<m→K' (1+sl+a)=K (1+sl+a)):tS N sl m p u c S B0 B K' Q:=
  TrC (Tr.congr h (fun a ha=>h2 a ha) (fun i _ _=>rfl) (fun a _=>rfl)) h1
theorem TW.cnt (h:TW Z0 Z N sl m u c B Q) {j v:Nat} (hj:j<Z.length) (hv:v<4294967296) (h1:j=0∨1+sl+m≤j) (hN:N≤sl):TW Z0 (Z.set j (C4 (Z.getD j 0) v)) N sl m u c B Q:=by
  refine⟨h.tr.acU (fun i hi=>?_) (fun a ha=>?_),fun i hi=>?_,fun i hi=>?_,fun i=>?_⟩
  · grind [G4]
  · grind [G4]
  · rw[G4 hj hv,if_neg Om];exact h.kl i hi
  · rw[ako hj hv];exact h.par i hi
  · rw[akp hj hv];exact h.sy i
theorem TW.next (h:TW Z0 Z N sl m u c B Q) {k1 k2 u2 c2 B2 v w:Nat} (h2:tS N sl m 2 u2 c2 (cZ Z k1+cZ Z k2) B B2 (cZ Z) (fun j=>if j=k2 then m else if j=k1 then m else Q j)) (hN:N≤sl)
    (hk:∀j,LL N sl u2 c2 j→j=k1∨j=k2∨LL N sl u c j) (h3:k1<1+sl+m) (h4:k2<1+sl+m) (hl:1+sl+m<Z.length) (hv:v=cZ Z k1+cZ Z k2) (vJ:v<4294967296) (hw:w=sl+m) (ML:w<65536) {Z1 Z2 Z3:List Nat}
    (hZ1:Z1=Z.set (1+(sl+m)) (C4 (Z.getD (1+(sl+m)) 0) v)) (hZ2:Z2=Z1.set k1 (AI (Z1.getD k1 0) w)) (hZ3:Z3=Z2.set k2 (AI (Z2.getD k2 0) w)):
    TW Z0 Z3 N sl (m+1) u2 c2 B2 (fun j=>if j=k2 then m else if j=k1 then m else Q j)∧(∀j,j≠1+sl+m→cZ Z3 j=cZ Z j):=by
  have l1:Z1.length=Z.length:=by rw[hZ1,List.length_set]
  have l2:Z2.length=Z.length:=by rw[hZ2,List.length_set,l1]
  have hc:∀j,cZ Z3 j=if 1+(sl+m)=j then v else cZ Z j:=fun j=>by
    grind [ati,G4]
  have hp:∀j,pZ Z3 j=if k2=j then w else if k1=j then w else pZ Z j:=fun j=>by
    grind [atj,ako]
  have hs:∀j,sZ Z3 j=sZ Z j:=fun j=>by
    grind [atk,akp]
  refine⟨⟨h2.node (fun j j1 j2=>by rw[hc,if_neg Om]) (by rw[hc,if_pos Om,hv]) hN (fun j _=>rfl),fun i hi=>?_,fun j hj=>?_,fun j=>by rw[hs];exact h.sy j⟩,fun j hj=>by rw[hc,if_neg Om]⟩
  · rw[hc,if_neg Om];exact h.kl i hi
  · rw[hp];show _=sl+(if j=k2 then m else if j=k1 then m else Q j);by_cases e:k2=j
    · grind
    · rw[if_neg e,if_neg (show¬j=k2 from fun q=>e q.symm)];by_cases e2:k1=j
      · grind
      · rw[if_neg e2,if_neg (show¬j=k1 from fun q=>e2 q.symm)];rcases hk j hj with h9|h9|h9
        · omega
        · omega
        · exact h.par j h9
end
def tT (Z0 Z:List Nat):Prop:=∀j,cZ Z j=cZ Z0 j∧pZ Z j=pZ Z0 j∧sZ Z j=sZ Z0 j
theorem tT.XJ (Z:List Nat):tT Z Z:=fun _=>⟨rfl,rfl,rfl⟩
theorem tT.B {Z0 Z:List Nat} (h:tT Z0 Z) {j n:Nat} (hj:j<Z.length) (hn:n<256):tT Z0 (Z.set j (og (Z.getD j 0) n)):=fun i=>by rw[akq hj hn,atl hj hn,akr hj hn];exact h i
structure InD (Z:List Nat) (sl m k:Nat) (Q:Nat→Nat):Prop where
  le:∀a,k≤a→a<m→bZ Z (1+sl+a)+a+1≤m
  top:bZ Z (1+sl+(m-1))=0
  VW:∀a,k≤a→a+1<m→bZ Z (1+sl+a)=bZ Z (1+sl+Q (1+sl+a))+1
structure LfD (Z:List Nat) (sl m n:Nat) (Q:Nat→Nat):Prop where
  ind:InD Z sl m 0 Q
  leaf:∀i,i<n→bZ Z (1+i)=bZ Z (1+sl+Q (1+i))+1
section
variable {Z0 Z:List Nat} {N sl m k n u c B:Nat} {Q:Nat→Nat}
theorem InD.begin (hj:1+sl+(m-1)<Z.length) (h1:1≤m):InD (Z.set (1+(sl+(m-1))) (og (Z.getD (1+(sl+(m-1))) 0) 0)) sl m (m-1) Q:=by
  have e:bZ (Z.set (1+(sl+(m-1))) (og (Z.getD (1+(sl+(m-1))) 0) 0)) (1+sl+(m-1))=0:=by rw[G5 Om Od,if_pos Om]
  exact⟨fun a h2 h3=>by rw[show a=m-1 by omega,e];omega,e,fun a h2 h3=>Om⟩
theorem InD.step (h:InD Z sl m k Q) (hk:1≤k) (hkm:k+1≤m) (hl:1+sl+m≤Z.length) (hQ:k-1<Q (1+sl+(k-1))∧Q (1+sl+(k-1))<m) {w:Nat} (hw:w=bZ Z (1+(sl+Q (1+sl+(k-1))))+1) (ML:w<256) (hQa:∀a,k≤a→a+1<m→a<Q (1+sl+a)∧Q (1+sl+a)<m):InD (Z.set (1+(sl+(k-1))) (og (Z.getD (1+(sl+(k-1))) 0) w)) sl m (k-1) Q:=by
  have hb:∀j,bZ (Z.set (1+(sl+(k-1))) (og (Z.getD (1+(sl+(k-1))) 0) w)) j=if 1+(sl+(k-1))=j then w else bZ Z j:=fun j=>G5 Om ML
  have e1:=h.le (Q (1+sl+(k-1))) Om hQ.2;rw[show 1+(sl+Q (1+sl+(k-1)))=1+sl+Q (1+sl+(k-1)) by omega] at hw;refine⟨fun a h1 h2=>?_,?_,fun a h1 h2=>?_⟩
  · rw[hb];split
    · omega
    · exact h.le a Om h2
  · rw[hb,if_neg Om];exact h.top
  · by_cases e:a=k-1
    · grind
    · rw[hb,if_neg Om,hb,if_neg (by have:=hQa a Om h2;omega)];exact h.VW a Om h2
theorem LfD.step (h:LfD Z sl m n Q) (hN:N≤sl) (hn:n<N) (hl:1+sl+m≤Z.length) {w:Nat} (hw:w=bZ Z (1+(sl+Q (1+n)))+1) (ML:w<256):LfD (Z.set (1+n) (og (Z.getD (1+n) 0) w)) sl m (n+1) Q:=by
  have hb:∀j,bZ (Z.set (1+n) (og (Z.getD (1+n) 0) w)) j=if 1+n=j then w else bZ Z j:=fun j=>G5 Om ML
  rw[show 1+(sl+Q (1+n))=1+sl+Q (1+n) by omega] at hw;refine⟨⟨fun a h1 h2=>?_,?_,fun a h1 h2=>?_⟩,fun i hi=>?_⟩
  · rw[hb,if_neg Om];exact h.ind.le a h1 h2
  · rw[hb,if_neg Om];exact h.ind.top
  · rw[hb,if_neg Om,hb,if_neg Om];exact h.ind.VW a h1 h2
  · rw[hb (1+sl+Q (1+i)),if_neg Om,hb];by_cases e:i=n
    · grind
    · rw[if_neg Om];exact h.leaf i Om
theorem acV (h:tS N sl (N-1) 0 0 (N-2) 0 B B (cZ Z0) Q) (hd:LfD Z sl (N-1) N Q) (hN:2≤N∧N≤256) (rR:∀i,i<N→1≤cZ Z0 (1+i)) (hT:sm (fun i=>cZ Z0 (1+i)) N<524288):
    V1 (fun i=>bZ Z (1+i)) (bZ Z (1+(N-1))) N∧bZ Z (1+(N-1))≤40:=by
  have hm:1≤N-1:=Om;have h':Tr N (fun i=>cZ Z0 (1+i)) (N-1) 0 0 (N-1-1) 0 B B (fun a=>cZ Z0 (1+sl+a)) (fun i=>Q (1+i)) (fun a=>Q (1+sl+a)):=by
    rw[show N-1-1=N-2 by omega];exact h
  have hD:OX N (N-1) (fun i=>Q (1+i)) (fun a=>Q (1+sl+a)) (fun a=>bZ Z (1+sl+a)) (fun i=>bZ Z (1+i)):=⟨hd.ind.top,fun a ha=>hd.ind.VW a (Nat.zero_le _) ha,fun i hi=>hd.leaf i hi⟩;have Py:∀i j,i≤j→j<N→bZ Z (1+i)≤bZ Z (1+j):=fun i j a b=>hD.mono h' hm a b
  have aCt:=Tr.root h' hm;have hI:∀a,a<N-1→bZ Z (1+sl+a)≤300:=fun a ha=>by have:=hd.ind.le a (Nat.zero_le _) ha;omega
  have hL:∀i,i<N→bZ Z (1+i)≤300:=fun i hi=>by have:=akt Z (1+i);omega
  have hk:=hD.gy h' hm hL hI;refine⟨⟨hN,Py,fun i hi=>⟨by rw[hd.leaf i hi];omega,Py i (N-1) Om Om⟩,rfl,?_⟩,?_⟩
  · have hl:=hL (N-1) Om;have e:sm (fun i=>2^(300-bZ Z (1+(N-1)))*2^(bZ Z (1+(N-1))-bZ Z (1+i))) N=2^300:=by
      rw[←hk];refine bB fun i hi=>?_
      have:=Py i (N-1) Om Om;rw[←Nat.pow_add];congr 1;omega
    rw[BF] at e;have e2:2^300=2^(300-bZ Z (1+(N-1)))*2^bZ Z (1+(N-1)):=by rw[←Nat.pow_add];congr 1;omega
    grind
  · have r':=hD.low h' hm (i:=N-1) Om;have hc:=rR (N-1) Om;have h1:2^(bZ Z (1+(N-1))/2)≤2^(bZ Z (1+(N-1))/2)*cZ Z0 (1+(N-1)):=Nat.le_mul_of_pos_right _ hc;have h2:2^(bZ Z (1+(N-1))/2)<2^19:=by
      omega
    have h3:bZ Z (1+(N-1))/2<19:=by
      apply Classical.byContradiction;intro hn;have:=Nat.pow_le_pow_right (n:=2) Om (show 19≤bZ Z (1+(N-1))/2 by omega);omega
    omega
end
theorem XL {n:Nat} {s:Nat→Nat} (hr:∀i,i<n→s i<n) (hs:∀x,x<n→∃i,i<n∧s i=x) {i j:Nat} (hi:i<n) (hj:j<n) (e:s i=s j):i=j:=by
  have hc:∀x,∃i,x<n→i<n∧s i=x:=fun x=>by
    grind
  have hg:∀x,x<n→Classical.choose (hc x)<n∧s (Classical.choose (hc x))=x:=fun x hx=>Classical.choose_spec (hc x) hx
  generalize hgd:(fun x=>Classical.choose (hc x))=g at*;have hg':∀x,x<n→g x<n∧s (g x)=x:=fun x hx=>by rw[←hgd];exact hg x hx
  have him:∀i,i<n→∃x,x<n∧g x=i:=fun i hi=>by
    have h1:=BK (n:=n) (g:=g) (fun x hx=>(hg' x hx).1) (fun x y hx hy h=>by rw[←(hg' x hx).2, ←(hg' y hy).2,h]) (fun z=>if z=i then 1 else 0);rw[x7 hi] at h1;obtain⟨x,hx,wv⟩:=J8 (W:=fun x=>if g x=i then 1 else 0) (n:=n) (by rw[h1];decide);grind
  obtain⟨x,hx,ex⟩:=him i hi;obtain⟨y,hy,ey⟩:=him j hj;grind
def fC (c:Nat × Nat):List Value:=[.int .u16 ((c.1:Nat):Int),.int .u8 ((c.2:Nat):Int)]
theorem iq (c:Nat × Nat):(fC c).length=2:=rfl
theorem acW (c:Nat × Nat):((fC c).all fun u=>u.oneCell')=true:=rfl
theorem Kl (n:Nat):(List.replicate n ([.int .u16 ((0:Nat):Int),.int .u8 ((0:Nat):Int)]:List Value)).flatten=rows fC (List.replicate n (0,0)):=by
  induction n with
  |zero=>rfl
  |succ n ih=>simp only[List.replicate_succ,List.flatten_cons,rows,List.flatMap_cons] at ih ⊢;rw[ih];rfl
theorem acX {N S sl M mb:Nat} (h1:N≤S) (h2:N≤sl) (h3:N≤256) (h4:2≤sl) (hb:mb=aq S∨mb=aq (sl-1)+1) (hM:mb≤M∨M=11):N≤2^M:=by
  rcases hM with hM|rfl
  · have h5:2^mb≤2^M:=Nat.pow_le_pow_right Om hM;grind [iD]
  · omega
structure ff (CN:List Nat) (T:List (Nat × Nat)) (sl R:Nat):Prop where
  zero:∀x,x<sl→CN.getD x 0=0→(T.getD x (0,0)).2=0
  some:∀x,x<sl→CN.getD x 0≠0→1≤(T.getD x (0,0)).2∧(T.getD x (0,0)).2≤R
  sum:sm (fun x=>if (T.getD x (0,0)).2=0 then 0 else 2^(R-(T.getD x (0,0)).2)) sl=2^R
  top:∃x,x<sl∧(T.getD x (0,0)).2=R
structure Hand (Z:List Nat) (T:List (Nat × Nat)) (sl k:Nat):Prop where
  len:T.length=256
  set:∀i,i<k→(T.getD (sZ Z (1+i)) (0,0)).2=bZ Z (1+i)
  zero:∀x,(∀i,i<k→sZ Z (1+i)≠x)→(T.getD x (0,0)).2=0
theorem qJ {T:List (Nat × Nat)} {i j:Nat} {v:Nat × Nat} (h:i<T.length):(T.set i v).getD j (0,0)=if i=j then v else T.getD j (0,0):=by
  grind
theorem Hand.begin (Z:List Nat) (sl:Nat):Hand Z (List.replicate 256 (0,0)) sl 0:=⟨List.length_replicate,fun i h=>Om,fun x _=>by
  rw[List.getD_eq_getElem?_getD,List.getElem?_replicate];split<;>rfl⟩
section
variable {CN Z Z0:List Nat} {T:List (Nat × Nat)} {sl k N R:Nat}
theorem zG.atn (hs:zG CN Z0 sl) {i j:Nat} (hi:i<sl) (hj:j<sl) (e:sZ Z0 (1+i)=sZ Z0 (1+j)):i=j:=
  XL (s:=fun i=>sZ Z0 (1+i)) (fun i hi=>by obtain⟨x,h1,_,h2⟩:=hs.BH i hi;show sZ Z0 (1+i)<sl;omega) (fun x hx=>by obtain⟨i,h1,_,h2⟩:=hs.Pw x hx;exact⟨i,h1,h2⟩) hi hj e
theorem Hand.step (h:Hand Z T sl k) (hs:zG CN Z0 sl) (hy:∀i,sZ Z i=sZ Z0 i) (hk:k<sl) (j6:sl≤256) {a:Nat}:Hand Z (T.set (sZ Z (1+k)) (a,bZ Z (1+k))) sl (k+1):=by
  have hl:=h.len;obtain⟨x,x1,_,x2⟩:=hs.BH k hk;have hx:sZ Z (1+k)<256:=aks _ _;refine⟨by simp[hl],fun i hi=>?_,fun y vj=>?_⟩
  · rw[qJ Om];by_cases e:i=k
    · rw[e,if_pos rfl]
    · rw[if_neg (fun e2=>e (by rw[hy,hy] at e2;exact(hs.atn hk Om e2).symm))];exact h.set i Om
  · rw[qJ Om,if_neg (vj k Om)];exact h.zero y fun i hi=>vj i Om
theorem Hand.fin (h:Hand Z T sl N) (hs:zG CN Z0 sl) (hc:∀i,i<N→cZ Z0 (1+i)≠0) (hz:∀i,N≤i→i<sl→cZ Z0 (1+i)=0) (hy:∀i,sZ Z i=sZ Z0 i) (hN:N≤sl) (hw:Whl Z N R):ff CN T sl R:=by
  have MH:∀i,i<sl→∃x,x<sl∧sZ Z (1+i)=x∧cZ Z0 (1+i)=CN.getD x 0:=fun i hi=>by
    obtain⟨x,a,b,c⟩:=hs.BH i hi;grind
  have hon:∀x,x<sl→∃i,i<sl∧sZ Z (1+i)=x∧cZ Z0 (1+i)=CN.getD x 0:=fun x hx=>by
    obtain⟨i,a,b,c⟩:=hs.Pw x hx;grind
  have hzero:∀x,x<sl→CN.getD x 0=0→(T.getD x (0,0)).2=0:=fun x hx h0=>h.zero x fun i hi e=>by
    obtain⟨y,a,b,c⟩:=MH i Om;rw[e] at b;subst b;exact hc i hi (by rw[c,h0])
  have akx:∀i,i<N→(T.getD (sZ Z (1+i)) (0,0)).2=bZ Z (1+i):=h.set;refine⟨hzero,fun x hx h0=>?_,?_,?_⟩
  · obtain⟨i,a,b,c⟩:=hon x hx;have hiN:i<N:=by
      grind
    rw[←b,akx i hiN];exact hw.sR i hiN
  · have e1:=BL (n:=sl) (P:=fun i=>if i<N then 2^(R-bZ Z (1+i)) else 0) (Q:=fun x=>if (T.getD x (0,0)).2=0 then 0 else 2^(R-(T.getD x (0,0)).2)) (s:=fun i=>sZ Z (1+i)) (fun x hx=>by obtain⟨i,a,b,_⟩:=hon x hx;exact⟨i,a,b⟩) (fun i hi=>by
      show(if i<N then 2^(R-bZ Z (1+i)) else 0)=if (T.getD (sZ Z (1+i)) (0,0)).2=0 then 0 else 2^(R-(T.getD (sZ Z (1+i)) (0,0)).2)
      by_cases e:i<N
      · have:=hw.sR i e;grind
      · grind)
    rw[e1, ←hw.sum];have e2:sl=N+(sl-N):=Om;rw[e2,vd];have e3:sm (fun j=>(fun i=>if i<N then 2^(R-bZ Z (1+i)) else 0) (N+j)) (sl-N)=0:=by
      have:sm (fun j=>(fun i=>if i<N then 2^(R-bZ Z (1+i)) else 0) (N+j)) (sl-N)=sm (fun _=>0) (sl-N):=bB fun j hj=>by
        grind
      rw[this,fV,Nat.mul_zero]
    grind [bB]
  · obtain⟨i,hi,he⟩:=hw.top;grind
theorem ff.val (h:ff CN T sl R) {n v:Nat} (hn:n<T.length):ff CN (T.set n (v,(T.getD n (0,0)).2)) sl R:=by
  have e:∀x,((T.set n (v,(T.getD n (0,0)).2)).getD x (0,0)).2=(T.getD x (0,0)).2:=fun x=>by
    grind
  exact⟨fun x hx h0=>by rw[e];exact h.zero x hx h0,fun x hx h0=>by rw[e];exact h.some x hx h0,by simp only[e];exact h.sum,by obtain⟨x,a,b⟩:=h.top;exact⟨x,a,by rw[e];exact b⟩⟩
theorem zG.more (hs:zG CN Z0 sl) {x:Nat} (hx:x<sl) (h0:CN.getD x 0≠0) {r:Nat} (hr:∀i,r<i→i<sl→cZ Z0 (1+i)=0):∃i,i≤r∧i<sl∧sZ Z0 (1+i)=x∧cZ Z0 (1+i)≠0:=by
  obtain⟨i,a,b,c⟩:=hs.Pw x hx;grind
theorem zG.pos (hs:zG CN Z0 sl) {r:Nat} (hr:r<sl) (h0:cZ Z0 (1+r)≠0):∀i,i<r+1→1≤cZ Z0 (1+i):=fun i hi=>by
  have:=hs.mK i r Om hr;omega
theorem zG.total (hs:zG CN Z0 sl):sm (fun i=>cZ Z0 (1+i)) sl=sm (nL CN) sl:=by
  refine(BL (n:=sl) (P:=fun i=>cZ Z0 (1+i)) (Q:=nL CN) (s:=fun i=>sZ Z0 (1+i)) (fun x hx=>?_) fun i hi=>?_).symm
  · obtain⟨i,a,b,c⟩:=hs.Pw x hx;exact⟨i,a,c⟩
  · obtain⟨x,a,b,c⟩:=hs.BH i hi;show cZ Z0 (1+i)=CN.getD (sZ Z0 (1+i)) 0;rw[c,b]
end
theorem Km {W:Nat→Nat}:∀{n:Nat},(∀i,i<n→1≤W i)→n≤sm W n
  |0,_=>Nat.zero_le _
  |n+1,h=>by
    have:=Km (W:=W) (n:=n) fun i hi=>h i Om
    grind [sm]
section
variable {CN Z0 Z:List Nat} {sl r m u c B:Nat} {Q:Nat→Nat}
theorem zG.back (hs:zG CN Z0 sl) {x:Nat} (hx:x<sl) (h0:CN.getD x 0≠0) (hr:∀i,r<i→i<sl→cZ Z0 (1+i)=0) (hz:cZ Z0 (1+r)=0):1≤r:=by
  obtain⟨i,a,b,c,d⟩:=hs.more hx h0 hr;grind
theorem zG.two (hs:zG CN Z0 sl) {x y:Nat} (hx:x<sl) (hy:y<sl) (Ee:x≠y) (h0:CN.getD x 0≠0) (h1:CN.getD y 0≠0) (hr:∀i,r<i→i<sl→cZ Z0 (1+i)=0):1≤r:=by
  obtain⟨i,a,b,c,d⟩:=hs.more hx h0 hr;obtain⟨j,a',b',c',d'⟩:=hs.more hy h1 hr;grind
theorem TW.first (hs:zG CN Z0 sl) (hr:r<sl) (h1:1≤r) (hl:Z0.length=513) (j6:sl≤256) {v:Nat} (hv:v=cZ Z0 (1+r)+cZ Z0 (1+(r-1))) (vJ:v<4294967296) {Z1 Z2 Z3:List Nat}
    (hZ1:Z1=Z0.set (1+sl) (C4 (Z0.getD (1+sl) 0) v)) (hZ2:Z2=Z1.set (1+r) (AI (Z1.getD (1+r) 0) sl)) (hZ3:Z3=Z2.set (1+(r-1)) (AI (Z2.getD (1+(r-1)) 0) sl)):
    ∃B Q,TW Z0 Z3 (r+1) sl 1 (r-1) 0 B Q:=by
  have hb:=TW.begin (N:=r+1) hs Om;have l1:=hb.tr.leaf Om Om Om (.inl rfl);have l2:=l1.leaf Om Om Om (.inl rfl);have e1:r+1=1+r:=Om;have e2:r+1-1=1+(r-1):=Om;have e3:r+1-1-1=r-1:=Om;rw[e3,e2,e1,Nat.zero_add,Nat.zero_add] at l2;rw[e1] at hb;have hn:=hb.next (k1:=1+r) (k2:=1+(r-1)) l2 Om (fun j hj=>by unfold LL at hj ⊢;omega) Om Om Om hv vJ Om Om hZ1 hZ2 hZ3;grind
def Pk1 (Z:List Nat) (N sl m u c B:Nat) (Q:Nat→Nat) (x u1 c1:Nat):Prop:=
  tS N sl m 1 u1 c1 (cZ Z (x+1)) B (cZ Z (x+1)) (cZ Z) (fun j=>if j=x+1 then m else Q j)∧x+1<1+sl+m∧∀j,LL N sl u1 c1 j→j=x+1∨LL N sl u c j
def Pk2 (Z:List Nat) (N sl m u c B:Nat) (Q:Nat→Nat) (x y u2 c2:Nat):Prop:=
  tS N sl m 2 u2 c2 (cZ Z (x+1)+cZ Z (y+1)) B (cZ Z (y+1)) (cZ Z) (fun j=>if j=y+1 then m else if j=x+1 then m else Q j)∧y+1<1+sl+m∧∀j,LL N sl u2 c2 j→j=x+1∨j=y+1∨LL N sl u c j
theorem TW.pick {N:Nat} (h:TW Z0 Z N sl m u c B Q) (hN:N≤sl) (hm:m+1<N) (hb:cZ Z 0=2147483648) (hf:∀a,m≤a→a+1<N→cZ Z (1+sl+a)=1073741824) (hK:sm (fun i=>cZ Z (1+i)) N<1073741824):
    (cZ Z u<cZ Z (1+sl+c)→1≤u∧Pk1 Z N sl m u c B Q (u-1) (u-1) c)∧(¬cZ Z u<cZ Z (1+sl+c)→c<m∧Pk1 Z N sl m u c B Q (sl+c) u (c+1)):=by
  have hn:=h.tr.num;obtain⟨p1,p2⟩:=h.tr.pick hN Om hm hb hf hK;refine⟨fun h1=>?_,fun h1=>?_⟩
  · obtain⟨a,b⟩:=p1 h1;rw[Nat.zero_add (cZ Z u)] at b;refine⟨a,?_,Om,fun j hj=>by unfold LL at hj ⊢;omega⟩;grind
  · obtain⟨a,b⟩:=p2 h1;rw[Nat.zero_add (cZ Z (1+sl+c))] at b;refine⟨a,?_,Om,fun j hj=>by unfold LL at hj ⊢;omega⟩;grind
theorem Pk1.pick {N x u1 c1:Nat} (h:Pk1 Z N sl m u c B Q x u1 c1) (hN:N≤sl) (hm:m+1<N) (hb:cZ Z 0=2147483648) (hf:∀a,m≤a→a+1<N→cZ Z (1+sl+a)=1073741824) (hK:sm (fun i=>cZ Z (1+i)) N<1073741824):
    (cZ Z u1<cZ Z (1+sl+c1)→1≤u1∧Pk2 Z N sl m u c B Q x (u1-1) (u1-1) c1)∧(¬cZ Z u1<cZ Z (1+sl+c1)→c1<m∧Pk2 Z N sl m u c B Q x (sl+c1) u1 (c1+1)):=by
  obtain⟨h1,h2,h3⟩:=h;have hn:=h1.num;obtain⟨p1,p2⟩:=h1.pick hN Om hm hb hf hK;refine⟨fun h4=>?_,fun h4=>?_⟩
  · obtain⟨a,b⟩:=p1 h4;refine⟨a,?_,Om,fun j hj=>?_⟩
    · grind
    · grind [LL]
  · obtain⟨a,b⟩:=p2 h4;refine⟨a,?_,Om,fun j hj=>?_⟩
    · grind
    · grind [LL]
theorem Pk2.small {N x y u2 c2:Nat} (h:Pk2 Z N sl m u c B Q x y u2 c2):cZ Z (x+1)+cZ Z (y+1)≤sm (fun i=>cZ Z (1+i)) N:=by
  have ht:=Tr.iZ h.1;have hn:=h.1.num;have h2:=ly (W:=fun a=>cZ Z (1+sl+a)) (show c2≤m by omega);omega
structure TE (Z:List Nat) (sl r B:Nat) (Q:Nat→Nat):Prop where
  tr:tS (r+1) sl r 0 0 (r-1) 0 B B (cZ Z) Q
  qi:∀a,a+1<r→a<Q (1+sl+a)∧Q (1+sl+a)<r
  ql:∀i,i<r+1→Q (1+i)<r
  pi:∀a,a+1<r→pZ Z (1+sl+a)=sl+Q (1+sl+a)
  pl:∀i,i<r+1→pZ Z (1+i)=sl+Q (1+i)
theorem TW.end_ (h:TW Z0 Z (r+1) sl m u c B Q) (hm:m=r) (h1:1≤r) (hr:r<sl):TE Z sl r B Q:=by
  subst hm;obtain⟨e1,e2⟩:=Tr.fin h.tr rfl h1;have e3:c=m-1:=Om;subst e1;subst e3;refine⟨h.tr,fun a ha=>?_,fun i hi=>?_,fun a ha=>h.par _ (.inr ⟨Om,Om⟩),fun i hi=>h.par _ (.inl ⟨Om,Om⟩)⟩
  · have:=Tr.pi h.tr a Om;omega
  · exact(Tr.pl h.tr i (Nat.zero_le _) hi).2 rfl
end
theorem ff.le {CN:List Nat} {T:List (Nat × Nat)} {sl R x:Nat} (h:ff CN T sl R) (hx:x<sl):(T.getD x (0,0)).2≤R:=by
  by_cases e:CN.getD x 0=0
  · rw[h.zero x hx e];exact Nat.zero_le _
  · exact(h.some x hx e).2
theorem Pz {V:List Nat} {b k v:Nat} (h:∀i,V.getD i 0≤b) (hk:k<V.length) (hv:v≤b):∀i,(V.set k v).getD i 0≤b:=fun i=>by
  grind [aS]
theorem Kn {V:List Nat} {b k v:Nat} (h:∀i,V.getD i 0≤b) (hk:k<V.length) (hv:v≤b+1):∀i,(V.set k v).getD i 0≤b+1:=Pz (fun i=>Nat.le_succ_of_le (h i)) hk hv
theorem w4 {W:Nat→Nat} {a n:Nat} (h:a≤n) (hz:∀x,a≤x→x<n→W x=0):sm W n=sm W a:=by
  have e:n=a+(n-a):=Om;rw[e,vd];have:sm (fun j=>W (a+j)) (n-a)=sm (fun _=>0) (n-a):=bB fun j hj=>hz _ Om Om
  rw[this,fV,Nat.mul_zero,Nat.add_zero]
theorem BZ {W:Nat→Nat} {i j:Nat} (h:i<j):∀{n:Nat},j<n→W i+W j≤sm W n
  |0,h1=>by omega
  |n+1,h1=>by
    simp only[sm];by_cases e:j=n
    · grind [pt]
    · have:=BZ (W:=W) h (n:=n) Om;omega
theorem yf {W:Nat→Nat} {i j n:Nat} (h:i≠j) (hi:i<n) (hj:j<n):W i+W j≤sm W n:=by
  rcases Nat.lt_or_gt_of_ne h with h1|h1
  · grind [BZ]
  · grind [BZ]
theorem acY {W:Nat→Nat} {a b n z:Nat} (LF:a≠b) (ha:a<n) (hb:b<n) (h1:W a≠0) (h2:W b≠0) (hz:z<n):W z+1≤sm W n:=by
  grind [yf]
structure py (CN:List Nat) (i iZ mx sy:Nat):Prop where
  acZ:iZ=sm (nL CN) i
  mb:∀x,x<i→CN.getD x 0≤mx
  me:mx=0∨∃x,x<i∧CN.getD x 0=mx
  sl:sy≤i
  sz:∀x,sy≤x→x<i→CN.getD x 0=0
  se:sy=0∨CN.getD (sy-1) 0≠0
section
variable {CN C2:List Nat} {i iZ mx sy sh nt nm:Nat}
theorem py.begin:py CN 0 0 0 0:=⟨rfl,fun x h=>Om,.inl rfl,Nat.le_refl _,fun x h1 h2=>Om,.inl rfl⟩
theorem py.step (h:py CN i iZ mx sy) {mx' sy':Nat} (hm:(mx<CN.getD i 0∧mx'=CN.getD i 0)∨(CN.getD i 0≤mx∧mx'=mx)) (hs:(CN.getD i 0≠0∧sy'=i+1)∨(CN.getD i 0=0∧sy'=sy)):py CN (i+1) (iZ+CN.getD i 0) mx' sy':=by
  have h1:=h.sl;refine⟨by rw[h.acZ];rfl,fun x hx=>?_,?_,Om,fun x h2 h3=>?_,?_⟩
  · by_cases e:x=i
    · rw[e];omega
    · have:=h.mb x Om;omega
  · rcases hm with ⟨a,b⟩|⟨a,b⟩
    · grind
    · rcases h.me with c|⟨x,c,d⟩
      · omega
      · grind
  · by_cases e:x=i
    · rw[e];omega
    · exact h.sz x Om Om
  · rcases hs with ⟨a,b⟩|⟨a,b⟩
    · grind
    · rw[b];exact h.se
theorem py.below (h:py CN 256 iZ mx sy) {a b:Nat} (LF:a≠b) (ha:a<256) (hb:b<256) (h1:CN.getD a 0≠0) (h2:CN.getD b 0≠0):mx+1≤iZ∧2≤sy∧a<sy∧b<sy∧2≤iZ:=by
  have ea:a<sy:=by
    apply Classical.byContradiction;intro hn;exact h1 (h.sz a Om ha)
  have eb:b<sy:=by
    apply Classical.byContradiction;intro hn;exact h2 (h.sz b Om hb)
  have hp:=yf (W:=nL CN) LF ha hb;rw[←h.acZ] at hp;have e1:nL CN a=CN.getD a 0:=rfl;have e2:nL CN b=CN.getD b 0:=rfl;refine⟨?_,Om,ea,eb,Om⟩;rcases h.me with c|⟨x,c,d⟩
  · omega
  · have:=acY (W:=nL CN) LF ha hb h1 h2 c;rw[←h.acZ] at this;grind [nL]
end
theorem PB {T:List (Nat × Nat)} {n x:Nat} {Z:List (Nat × Nat)} (hx:x<n) (hn:n≤T.length):(T.take n++Z).getD x (0,0)=T.getD x (0,0):=by
  grind
theorem G8 {xs:List Nat} {i n:Nat} (h:i<n):(xs.take n).getD i 0=xs.getD i 0:=by simp[List.getD_eq_getElem?_getD,List.getElem?_take,h]
theorem Eo:∀xs:List Nat,gy xs=sm (fun i=>if xs.getD i 0=0 then 0 else 2^(11-xs.getD i 0)) xs.length
  |[]=>rfl
  |x::xs=>by
    simp_all [kk,gy,Eo]
theorem PC:∀xs:List Nat,nzc xs=sm (fun i=>if xs.getD i 0=0 then 0 else 1) xs.length
  |[]=>rfl
  |x::xs=>by
    simp_all [kk,nzc,PC]
def gI (T:List (Nat × Nat)) (sl:Nat):List Nat:=(List.range 256).map fun x=>if x<sl then (T.getD x (0,0)).2 else 0
theorem fX {T:List (Nat × Nat)} {sl:Nat}:(gI T sl).length=256:=by simp[gI]
theorem dZ {T:List (Nat × Nat)} {sl:Nat} (h:sl≤256) (x:Nat):(gI T sl).getD x 0=if x<sl then (T.getD x (0,0)).2 else 0:=by
  by_cases hx:x<256
  · simp_all [gI]
  · grind [fX]
def G9 (T:List (Nat × Nat)) (R x:Nat):Nat:=u6 R (T.getD x (0,0)).2
section
variable {CN:List Nat} {T:List (Nat × Nat)} {sl R:Nat}
theorem ff.PD (h:ff CN T sl R) (j6:sl≤256):dY (gI T sl) R:=fun x hx=>by
  obtain⟨i,hi,e⟩:=List.mem_iff_getElem.1 hx;have e2:=dZ (T:=T) j6 i;rw[List.getD_eq_getElem?_getD,List.getElem?_eq_getElem hi,Option.getD_some,e] at e2;rw[e2];split
  · rename_i h2;exact h.le h2
  · omega
theorem ff.whole (h:ff CN T sl R) (j6:sl≤256) (hR:R≤11) {a b:Nat} (LF:a≠b) (ha:a<sl) (hb:b<sl) (V2:CN.getD a 0≠0) (AK:CN.getD b 0≠0):gL (gI T sl):=by
  refine⟨by rw[fX];exact Nat.le_refl _,fun x hx=>Nat.le_trans (h.PD j6 x hx) hR,?_,?_⟩
  · rw[Eo,fX,w4 (a:=sl) j6 fun x h1 h2=>if_pos (by rw[dZ j6,if_neg Om])];have e:sm (fun i=>if (gI T sl).getD i 0=0 then 0 else 2^(11-(gI T sl).getD i 0)) sl=sm (fun x=>2^(11-R)*(if (T.getD x (0,0)).2=0 then 0 else 2^(R-(T.getD x (0,0)).2))) sl:=bB fun x hx=>by
      have hl:=h.le hx;rw[dZ j6,if_pos hx];split
      · omega
      · rw[←Nat.pow_add,show 11-R+(R-(T.getD x (0,0)).2)=11-(T.getD x (0,0)).2 by omega]
    rw[e,BF,h.sum, ←Nat.pow_add,show 11-R+R=11 by omega]
  · rw[PC,fX];have h1:=h.some a ha V2;have h2:=h.some b hb AK;have:=yf (W:=fun i=>if (gI T sl).getD i 0=0 then 0 else 1) (n:=256) LF Om Om;grind [dZ]
theorem ff.hw (h:ff CN T sl R) (j6:1≤sl∧sl≤256) (hl:CN.getD (sl-1) 0≠0):HW (gI T sl) R (sl-1):=by
  refine⟨h.PD j6.2,?_,by rw[fX];omega,?_,fun p hp=>?_⟩
  · obtain⟨x,h1,h2⟩:=h.top;exact⟨x,by rw[fX];omega,by rw[dZ j6.2,if_pos h1,h2]⟩
  · have:=(h.some (sl-1) Om hl).1;grind [dZ]
  · grind [dZ]
theorem ff.has (h:ff CN T sl R) (j6:sl≤256) {x:Nat} (hx:x<sl) (h0:CN.getD x 0≠0):1≤(gI T sl).getD x 0∧(gI T sl).getD x 0≤R:=by
  rw[dZ j6,if_pos hx];exact h.some x hx h0
theorem PE {X:List Nat} {la:Nat} (j6:sl≤256) (hla:la+1=sl) (hX:la≤X.length) (h:∀x,x<la→X.getD x 0=G9 T R x):bM (gI T sl) R la=X.take la:=by
  have h1:=j5 (ls:=gI T sl) (L:=R) (last:=la) (by rw[fX];omega);refine tQ (by rw[h1,List.length_take];omega) fun i hi=>?_
  rw[h1] at hi;rw[zx (by rw[fX];omega) hi,dZ j6,if_pos Om,G8 hi,h i hi]
  rfl
theorem yg (x:Nat):G9 T R x≤R:=by unfold G9 u6;split<;>omega
end
structure C5 (W:Nat→Nat) (H X:List Nat) (i:Nat):Prop where
  len:H.length=256
  get:∀v,H.getD v 0=sm (fun x=>if W x=v then 1 else 0) i
  xl:X.length=256
  xb:Bytes X
  xe:∀x,x<i→X.getD x 0=W x
theorem PF {W:Nat→Nat} {v:Nat}:∀{i:Nat},sm (fun x=>if W x=v then 1 else 0) i≤i
  |0=>Nat.le_refl _
  |i+1=>by
    have:=PF (W:=W) (v:=v) (i:=i);grind [sm]
section
variable {W:Nat→Nat} {H X:List Nat} {i:Nat}
theorem C5.begin (hx:X.length=256) (hb:Bytes X):C5 W (List.replicate 256 0) X 0:=⟨List.length_replicate,fun v=>by
  rw[List.getD_eq_getElem?_getD,List.getElem?_replicate];split<;>rfl,hx,hb,fun x h=>Om⟩
theorem C5.step (h:C5 W H X i) (hi:i<256) (hw:W i<256):C5 W (H.set (W i) (H.getD (W i) 0+1)) (X.set i (W i)) (i+1):=by
  have hl:=h.len;have hx:=h.xl;refine⟨by simp[hl],fun v=>?_,by simp[hx],fun x zi=>?_,fun x zi=>?_⟩
  · rw[aS Om];simp only[sm];split
    · rename_i e;subst e;rw[h.get]
    · rw[h.get];rfl
  · rcases List.mem_or_eq_of_mem_set zi with a|a
    · exact h.xb x a
    · omega
  · rw[aS Om];split
    · grind
    · exact h.xe x Om
theorem C5.le (h:C5 W H X i) (v:Nat):H.getD v 0≤i:=by rw[h.get];exact PF
theorem C5.ge (h:C5 W H X i) {x:Nat} (hx:x<i):1≤H.getD (W x) 0:=by
  rw[h.get];grind [pt]
theorem C5.ex (h:C5 W H X i) {v:Nat} (hv:H.getD v 0≠0):∃x,x<i∧W x=v:=by
  rw[h.get] at hv;grind [J8]
theorem Ep {n:Nat}:∀{i:Nat},(∀x,x<i→W x<n)→sm (fun v=>sm (fun x=>if W x=v then 1 else 0) i) n=i
  |0,_=>by
    have:=fV (k:=0) (n:=n);rw[Nat.mul_zero] at this;exact this
  |i+1,h=>by
    have h1:=Ep (n:=n) (i:=i) fun x hx=>h x Om
    have h2:=x7 (v:=W i) (n:=n) (h i Om);have e:sm (fun v=>sm (fun x=>if W x=v then 1 else 0) (i+1)) n=sm (fun v=>sm (fun x=>if W x=v then 1 else 0) i+(if v=W i then 1 else 0)) n:=bB fun v _=>by
      grind [sm]
    grind [wX]
theorem C5.sum (h:C5 W H X i) {n:Nat} (hw:∀x,x<i→W x<n):sm (nL H) n=i:=by
  rw[←Ep (W:=W) (n:=n) hw];exact bB fun v _=>h.get v
end
structure MM (H:List Nat) (i mx mc:Nat):Prop where
  mi:mx≤i
  mb:∀j,j<i→H.getD j 0≤mc
  me:mc=0∨∃j,H.getD j 0=mc
  z:∀j,mx<j→j<i→H.getD j 0=0
  nz:(mx=0∧∀j,j<i→H.getD j 0=0)∨(mx<i∧H.getD mx 0≠0)
section
variable {W:Nat→Nat} {H X:List Nat} {i mx mc la:Nat}
theorem MM.begin:MM H 0 0 0:=⟨Nat.le_refl _,fun j h=>Om,.inl rfl,fun j _ h=>Om,.inl ⟨rfl,fun j h=>Om⟩⟩
theorem MM.zero (h:MM H i mx mc) (h0:H.getD i 0=0):MM H (i+1) mx mc:=by
  have hm:=h.mi;refine⟨Om,fun j hj=>?_,h.me,fun j h1 h2=>?_,?_⟩
  · by_cases e:j=i
    · grind
    · exact h.mb j Om
  · by_cases e:j=i
    · rw[e,h0]
    · exact h.z j h1 Om
  · rcases h.nz with ⟨a,b⟩|⟨a,b⟩
    · grind
    · omega
theorem MM.step (h:MM H i mx mc) (h0:H.getD i 0≠0) {mc':Nat} (hm:(mc<H.getD i 0∧mc'=H.getD i 0)∨(H.getD i 0≤mc∧mc'=mc)):MM H (i+1) i mc':=by
  refine⟨Om,fun j hj=>?_,?_,fun j h1 h2=>Om,.inr ⟨Om,h0⟩⟩
  · by_cases e:j=i
    · rw[e];omega
    · have:=h.mb j Om;omega
  · rcases hm with ⟨a,b⟩|⟨a,b⟩
    · grind
    · rw[b];exact h.me
theorem MM.fin (h:MM H 16 mx mc) (hs:C5 W H X la) (hw:∀x,W x≤11) (hla:1≤la):
    (1≤mc∧mc≤la)∧mx≤11∧sm (nL H) (mx+1)=la∧(∀j,H.getD j 0≤mc)∧H.getD mx 0≠0∧(∀s ∈ X.take la,s<mx+1∧H.getD s 0≠0):=by
  have g0:=hs.ge (x:=0) hla;have hw0:=hw 0;have hb:=h.mb (W 0) Om;have hnz:mx<16∧H.getD mx 0≠0:=by
    rcases h.nz with ⟨a,b⟩|h9
    · grind
    · exact h9
  have hz:∀v,v>11→H.getD v 0=0:=fun v hv=>Classical.byContradiction fun e=>by
    obtain⟨x,_,h2⟩:=hs.ex e;grind
  have uF:mx≤11:=Classical.byContradiction fun e=>hnz.2 (hz mx Om)
  have hwm:∀x,x<la→W x<mx+1:=fun x hx=>Classical.byContradiction fun e=>by
    have a:=hs.ge hx;have b:=h.z (W x) Om (by have:=hw x;omega);omega
  refine⟨⟨Om,?_⟩,uF,hs.sum hwm,fun j=>?_,hnz.2,fun s Ge=>?_⟩
  · rcases h.me with e|⟨j,e⟩
    · omega
    · rw[←e];exact hs.le j
  · by_cases e:j<16
    · exact h.mb j e
    · grind
  · have hxl:=hs.xl;obtain⟨k,hk,e⟩:=List.mem_iff_getElem.1 Ge;have uA:k<la:=by rw[List.length_take] at hk;omega
    have e2:s=W k:=by
      rw[←hs.xe k uA, ←e];grind
    rw[e2];exact⟨hwm k uA,by have:=hs.ge uA;omega⟩
end
theorem Ko:∀(xs:List Nat) (a b:Nat),xs.length%2=0→nib (xs++[a,b])=nib xs++[a*16+b]
  |[],a,b,_=>rfl
  |[x],a,b,h=>by simp at h
  |x::y::r,a,b,h=>by
    simp only[List.cons_append,nib];rw[Ko r a b (by simp only[List.length_cons] at h;omega)]
theorem Kp:∀(xs:List Nat),xs.length%2=1→nib (xs++[0])=nib xs
  |[],h=>by simp at h
  |[x],h=>by simp[nib]
  |x::y::r,h=>by
    simp only[List.cons_append,nib];rw[Kp r (by simp only[List.length_cons] at h;omega)]
theorem Er {W P:List Nat} {i n:Nat} (hP:P=[n]++nib (W.take i)) (hi:i+1<W.length) (h:i%2=0):P++[W.getD i 0*16+W.getD (i+1) 0]=[n]++nib (W.take (i+2)):=by
  grind [iT,nib,Ko]
theorem PG {W P:List Nat} {i n la:Nat} (hP:P=[n]++nib (W.take i)) (hi:la≤i∧i≤la+1) (h:i%2=0) (hl:la<W.length) (h0:W.getD la 0=0):P=[n]++nib (W.take la):=by
  rcases Nat.lt_or_eq_of_le hi.1 with h1|h1
  · have e:i=la+1:=Om;grind [iT,Kp]
  · rw[hP,h1]
structure V3 (BW:List Nat) (R n:Nat):Prop where
  len:BW.length=12
  get:∀x,1≤x→x<n→BW.getD x 0=R+1-x
  z:BW.getD 0 0=0
theorem V3.begin {R:Nat}:V3 (List.replicate 12 0) R 1:=⟨List.length_replicate,fun x h1 h2=>Om,rfl⟩
theorem V3.step {BW:List Nat} {R n:Nat} (h:V3 BW R n) (h1:1≤n) (hn:n<12):V3 (BW.set n (R+1-n)) R (n+1):=by
  have hl:=h.len;refine⟨by simp[hl],fun x a b=>?_,?_⟩
  · rw[aS Om];split
    · omega
    · exact h.get x a Om
  · rw[aS Om,if_neg Om];exact h.z
theorem V3.w {BW:List Nat} {R n x:Nat} (h:V3 BW R n) (hn:n=R+1) (hx:x≤R):BW.getD x 0=u6 R x:=by
  unfold u6;split
  · rename_i e;rw[e];exact h.z
  · exact h.get x Om Om
theorem LM {X:List Nat} {la v:Nat}:(X.set la v).take la=X.take la:=by rw[List.take_set,List.set_eq_of_length_le (by rw[List.length_take];omega)]
theorem PH {n i:Nat}:(List.replicate n 0).set i 0=List.replicate n 0:=by
  simp_all
theorem aah {x:Nat} (h:x<128):128|||x=127+(x+1):=by
  have:=Nat.two_pow_add_eq_or_of_lt (i:=7) (b:=x) h 1;grind
theorem w15 {BW:List Nat} {T:List (Nat × Nat)} {R x:Nat} (h:V3 BW R (R+1)) (hR:R≤11) (hx:(T.getD x (0,0)).2≤R):BW.getD (T.getD x (0,0)).2 0%16=G9 T R x:=by
  rw[h.w rfl hx];grind [yg,G9]
theorem ato {T:List (Nat × Nat)} {X Y:List Nat} {sl R:Nat} {ok:Bool} (hk:ok=true) (h:ok=true→∃L P,fM L P (X.take (sl-1)) Y∧2≤Y.length∧(5≤sl-1→L=5)) (j6:2≤sl∧sl≤256) (hX:X.length=256) (hW:∀x,x<sl-1→X.getD x 0=G9 T R x) (hl:Y.length<sl/2):kF (bM (gI T sl) R (sl-1)) ([Y.length]++Y):=by
  obtain⟨L,P,h1,h2,h3⟩:=h hk;have e:=h3 Om;subst e;rw[PE j6.2 Om Om hW];exact .inr ⟨P,Y,h1,Om,rfl⟩
theorem aky {T:List (Nat × Nat)} {X P:List Nat} {sl R n:Nat} (hP:P=[127+(sl-1)]++nib ((X.set (sl-1) 0).take n)) (hn:sl-1≤n∧n≤sl-1+1) (h2:n%2=0) (j6:2≤sl∧sl≤129) (hX:X.length=256) (hW:∀x,x<sl-1→X.getD x 0=G9 T R x):kF (bM (gI T sl) R (sl-1)) P:=by
  have h:=PG hP hn h2 Oz (by rw[aS Om,if_pos rfl]);rw[LM] at h;rw[PE Om Om Om hW];refine .inl ⟨by rw[List.length_take];omega,?_⟩;grind
theorem C5.x3 {T:List (Nat × Nat)} {R la:Nat} {H X:List Nat} (h:C5 (G9 T R) H X la) (hR:R≤11) (hl:la<256):∀x,x≤la→(X.set la 0).getD x 0≤11:=fun x hx=>by
  rw[aS (by rw[h.xl];omega)];split
  · omega
  · rw[h.xe x Om];exact Nat.le_trans (yg x) hR
theorem PJ {b:Nat}:∀ls:List Nat,ls.count b=sm (fun x=>if ls.getD x 0=b then 1 else 0) ls.length
  |[]=>rfl
  |x::ls=>by
    rw[List.length_cons,kk,List.count_cons,PJ ls];grind
structure Cb (Z P:List Nat) (x:Nat):Prop where
  len:P.length=12
  get:∀b,b<12→P.getD b 0=sm (fun i=>if bZ Z (1+i)=b then 1 else 0) x
theorem Cb.begin {Z:List Nat}:Cb Z (List.replicate 12 0) 0:=⟨List.length_replicate,fun b _=>by rw[mN];rfl⟩
theorem Cb.step {Z P:List Nat} {x b:Nat} (h:Cb Z P x) (hb:b=bZ Z (1+x)) (n9:b<12):Cb Z (P.set b (P.getD b 0+1)) (x+1):=by
  have hl:=h.len;refine⟨by simp[hl],fun c hc=>?_⟩;rw[aS Om];simp only[sm];split
  · rename_i e;subst e;rw[h.get b n9,if_pos hb.symm]
  · rename_i e;rw[h.get c hc,if_neg Om];rfl
def vst (c:Nat→Nat) (R:Nat):Nat→Nat
  |0=>0
  |d+1=>(vst c R d+c (R-d))/2
structure Vr (c:Nat→Nat) (V:List Nat) (R nq mn:Nat):Prop where
  len:V.length=16
  le:nq≤R
  mnE:mn=vst c R (R-nq)
  get:∀k,nq<k→k≤R→V.getD k 0=vst c R (R-k)
theorem Vr.begin {c:Nat→Nat} {R:Nat}:Vr c (List.replicate 16 0) R R 0:=⟨List.length_replicate,Nat.le_refl _,by rw[Nat.sub_self];rfl,fun k h1 h2=>Om⟩
theorem Vr.step {c:Nat→Nat} {V:List Nat} {R nq mn n:Nat} (h:Vr c V R nq mn) (h1:1≤nq) (hR:R≤11) (hn:n=c nq):Vr c (V.set nq mn) R (nq-1) ((mn+n)/2):=by
  have hl:=h.len;have hle:=h.le;refine⟨by simp[hl],Om,?_,fun k h2 h3=>?_⟩
  · rw[show R-(nq-1)=(R-nq)+1 by omega,vst,show R-(R-nq)=nq by omega,h.mnE,hn]
  · rw[aS Om];split
    · rename_i e;rw[h.mnE,e]
    · exact h.get k Om h3
theorem Kq {ls:List Nat} {R:Nat} {c:Nat→Nat} (hl:dY ls R) (hR:R≤11) (hc:∀b,1≤b→b≤R→ls.count b=c b):∀d,d≤R→vst c R d=CZ ls (R-d)
  |0,_=>by rw[Nat.sub_zero,wW hl hR];rfl
  |d+1,h=>by
    rw[vst,Kq hl hR hc d Om,show R-(d+1)=(R-d)-1 by omega,xJ ls (m:=R-d) Om Om,hc (R-d) Om Om]
section
variable {CN Z Z0:List Nat} {T:List (Nat × Nat)} {sl N R:Nat}
theorem Hand.count (h:Hand Z T sl N) (hs:zG CN Z0 sl) (hL:ff CN T sl R) (hz:∀i,N≤i→i<sl→cZ Z0 (1+i)=0) (hy:∀i,sZ Z i=sZ Z0 i) (hN:N≤sl) (j6:sl≤256) {b:Nat} (hb:1≤b):(gI T sl).count b=sm (fun i=>if bZ Z (1+i)=b then 1 else 0) N:=by
  rw[PJ,fX,w4 (a:=sl) j6 fun x h1 h2=>if_neg (by rw[dZ j6,if_neg Om];omega)];have e1:sm (fun x=>if (gI T sl).getD x 0=b then 1 else 0) sl=sm (fun x=>if (T.getD x (0,0)).2=b then 1 else 0) sl:=bB fun x hx=>by rw[dZ j6,if_pos hx]
  rw[e1];have e2:=BL (n:=sl) (P:=fun i=>if i<N then (if bZ Z (1+i)=b then 1 else 0) else 0) (Q:=fun x=>if (T.getD x (0,0)).2=b then 1 else 0) (s:=fun i=>sZ Z (1+i)) (fun x hx=>by
    obtain⟨i,a,_,d⟩:=hs.Pw x hx;exact⟨i,a,by rw[hy];exact d⟩) (fun i hi=>by
    show(if i<N then (if bZ Z (1+i)=b then 1 else 0) else 0)=if (T.getD (sZ Z (1+i)) (0,0)).2=b then 1 else 0
    by_cases e:i<N
    · rw[if_pos e,h.set i e]
    · obtain⟨y,a,d,f⟩:=hs.BH i hi;rw[if_neg e,if_neg];rw[hy,f,hL.zero y a (by rw[←d];exact hz i Om hi)];omega)
  rw[e2,w4 (a:=N) hN fun x h1 h2=>if_neg Om];grind [bB]
end
structure Vx (ls:List Nat) (T:List (Nat × Nat)) (V:List Nat) (sl R x:Nat):Prop where
  atp:T.length=256
  atq:V.length=16
  ln:∀y,y<sl→(T.getD y (0,0)).2=ls.getD y 0
  v:∀k,1≤k→k≤R→V.getD k 0=CZ ls k+(ls.take x).count k
  t:∀y,y<x→1≤ls.getD y 0→(T.getD y (0,0)).1=jr ls y
section
variable {ls V:List Nat} {T:List (Nat × Nat)} {sl R x:Nat}
theorem Vx.step (h:Vx ls T V sl R x) (hx:x<sl) (j6:sl≤256) (hls:ls.length=256) (hR:R≤11) (hl:ls.getD x 0≤R):Vx ls (T.set x (V.getD ((T.getD x (0,0)).2%16) 0,(T.getD x (0,0)).2)) (V.set ((T.getD x (0,0)).2%16) (V.getD ((T.getD x (0,0)).2%16) 0+1)) sl R (x+1):=by
  have hT:=h.atp;have hV:=h.atq;have e:=h.ln x hx;have e16:(T.getD x (0,0)).2%16=ls.getD x 0:=by rw[e];exact Nat.mod_eq_of_lt Om
  rw[e16];refine⟨by simp[hT],by simp[hV],fun y hy=>?_,fun k h1 h2=>?_,fun y hy vZ=>?_⟩
  · rw[qJ Om];split
    · grind
    · exact h.ln y hy
  · rw[aS Om,iE Om];by_cases e2:ls.getD x 0=k
    · rw[if_pos e2,if_pos e2,e2,h.v k h1 h2];omega
    · rw[if_neg e2,if_neg e2,h.v k h1 h2];rfl
  · rw[qJ Om];by_cases e2:x=y
    · subst e2;rw[if_pos rfl];exact h.v _ vZ hl
    · rw[if_neg e2];exact h.t y Om vZ
theorem Vx.fin (h:Vx ls T V sl R sl) {T0:List (Nat × Nat)} (hls:ls=gI T0 sl) (j6:sl≤256):gI T sl=ls∧∀y,y<sl→1≤(T.getD y (0,0)).2→(T.getD y (0,0)).1=jr (gI T sl) y:=by
  have e:gI T sl=ls:=by
    rw[hls];refine tQ (by rw[fX,fX]) fun y hy=>?_
    rw[dZ j6,dZ j6];split
    · rename_i h2;have:=h.ln y h2;grind [dZ]
    · rfl
  refine⟨e,fun y hy h1=>?_⟩;rw[e];exact h.t y hy (by rw[←h.ln y hy];exact h1)
end
theorem Vx.begin {ls V:List Nat} {T:List (Nat × Nat)} {sl R:Nat} {c:Nat→Nat} {m:Nat} (hV:Vr c V R 0 m) (hT:T.length=256) (hls:ls=gI T sl) (j6:sl≤256) (hl:dY ls R) (hR:R≤11) (hc:∀b,1≤b→b≤R→ls.count b=c b):Vx ls T V sl R 0:=
  ⟨hT,hV.len,fun y hy=>by rw[hls,dZ j6,if_pos hy],fun k h1 h2=>by rw[hV.get k Om h2,Kq hl hR hc (R-k) Om,show R-(R-k)=k by omega,List.take_zero];rfl,fun y hy=>Om⟩
def B1 (T:List (Nat × Nat)) (sl:Nat):Prop:=∀y,y<sl→1≤(T.getD y (0,0)).2→(T.getD y (0,0)).1=jr (gI T sl) y
theorem LN {α:Type} {f:α→List Value} {sz:Nat} (hf:∀x,(f x).length=sz) (xs ys:List α) (h:ys.length≤xs.length):spl (rows f xs) 0 (rows f ys)=rows f (ys++xs.drop ys.length):=by
  rw[uT _ _ _ (by rw[bK hf,bK hf,Nat.zero_add];exact Nat.mul_le_mul_right _ h)];simp_all [DN,bK,qq]
section
variable {P:Program} {K:Kx} {Q:Exit→Act→World→Prop} {ρ:aB} {l r:List au} {o:Oper} {x y:Operand} {t n m cap q d sz e:Nat} {k:IntKind}
theorem ac0 {α:Type} {f:α→List Value} {xs T:List α} {ca:Call} {q2:Option Addr} {dc sc e mW:Nat} {zs:List Value} {sg:au} (hf:∀x,(f x).length=sz) (h1:∀x,((f x).all fun u=>u.oneCell')=true) (i:Nat) (ho:o.op=.call ca) (hc:ca.callee=.builtin .copy) (f':evs ρ ca.args.toList=some [.slice (some ⟨sg.b,q,none⟩) n dc,.slice q2 n sc]) (uB:ca.argTypes= #[t,t]) (hP:ez P t=some (e,zs,sz,mW))
    (hs:nthS i l=some sg) (hq:q=sg.o+0) (nk:Src l r q2 (rows f (T.take n))) (hT:n≤T.length) (zu:sg.cs=rows f xs∧n≤xs.length) (hd:o.dst=some d) (rG:Nat.blt d K.n=true):
    kC P K ρ l r o (fun ρ' l'=>ρ'=(d,.int .i64 ((min n n:Nat):Int))::ρ∧l'=setS i ⟨sg.b,sg.o,rows f (T.take n++xs.drop n),sg.sh⟩ l):=by
  have hl:(T.take n).length=n:=by rw[List.length_take];omega
  have qX:((rows f (T.take n)).all fun u=>u.oneCell')=true:=by
    rw[List.all_eq_true];intro u hu;obtain⟨a,_,ha⟩:=List.mem_flatMap.1 hu;grind
  have:=aaa (K:=K) i 0 ho hc f' uB hP hs hq nk (by rw[bK hf,hl,Nat.min_self]) (by rw[zu.1,bK hf,bK hf,hl,Nat.zero_add];exact Nat.mul_le_mul_right _ zu.2) qX hd rG;simp_all [LN]
end
section
variable {P:Program} {fn:Func} {dz:Value→List au→Prop} {l0 l r:List au} {w0:World} {n:Nat} {p rest:List au} {ρ:aB}
theorem aai {a ty sz q:Nat} {sg:au} {vs:List Value} (is:List Nat) (i j:Nat) (uQ:fn.results= #[.cell a ty]) (hva:look a ρ=some (.pointer (some ⟨sg.b,q,none⟩))) (hs:nthS i l=some sg) (hP:mv P ty=some true) (hz:eW P ty=some sz) (hq:q=sg.o+j) (hv:(sg.cs.drop j).take sz=vs) (hn:vs.length=sz) (hp:pickS is l=some (p,rest)) (hPo:dz (.agg vs.toArray) p):
    GQ ⟨n,l0,w0⟩ (bodyPost P fn (Ends dz l0 r w0)) .ret ρ l r:=
  fun ac w ha=>⟨ha.defers,_,by
    have jO:=ha.st.hl sg (dq _ _ _ hs);have e:=By (P:=P) (w:=w) (b:=sg.b) (q:=q) (vs:=vs) hP (by rw[hz,hn]) (fun i hi=>by
      subst hq;rw[show sg.o+j+i=sg.o+(j+i) by omega];exact jO.1 (j+i) _ (xy hv hn Om))
    simp[results,uQ,ha.fr _ _ hva,asAddr,e],nh (ha.pick is hp) hPo⟩
end
theorem LO {n:Nat} (h:n<64):(n&&&18446744073709551608)&&&63=8*(n/8):=by
  have:∀m:Fin 64,(m.val&&&18446744073709551608)&&&63=8*(m.val/8):=Od;exact this ⟨n,h⟩
theorem sf {x y k b:Nat} (h:x<2^k) (h2:y<2^b):x+y*2^k<2^(k+b):=by
  have:(y+1)*2^k≤2^b*2^k:=Nat.mul_le_mul_right _ h2;grind
theorem XM {cs:List Value} {j:Nat} (h:j<cs.length):cs[j]? =some (cs.getD j undef):=by simp[List.getD_eq_getElem?_getD,h]
def yh (cs:List Value) (k v:Nat):List Value:=((((((((cs.set (k+0) (.int .u8 ((v%256:Nat):Int))).set (k+1) (.int .u8 ((v/2^8%256:Nat):Int))).set (k+2) (.int .u8 ((v/2^16%256:Nat):Int))).set (k+3) (.int .u8 ((v/2^24%256:Nat):Int))).set (k+4) (.int .u8 ((v/2^32%256:Nat):Int))).set (k+5) (.int .u8 ((v/2^40%256:Nat):Int))).set (k+6) (.int .u8 ((v/2^48%256:Nat):Int))).set (k+7) (.int .u8 ((v/2^56%256:Nat):Int)))
theorem Es (cs:List Value) (k v:Nat):(yh cs k v).length=cs.length:=by simp[yh]
theorem PK (v:Nat):bR v 8=[v%256,v/2^8%256,v/2^16%256,v/2^24%256,v/2^32%256,v/2^40%256,v/2^48%256,v/2^56%256]:=by simp[bR,List.range_succ]
theorem PN {cs:List Value} {k v:Nat} (h:k+8≤cs.length) {i:Nat}:(yh cs k v)[i]? =if i<k then cs[i]? else if i<k+8 then (aa .u8 (bR v 8))[i-k]? else cs[i]? :=by
  by_cases h1:i<k
  · rw[if_pos h1];simp only[yh,List.getElem?_set];grind
  · rw[if_neg h1];by_cases h2:i<k+8
    · rw[if_pos h2,PK];obtain⟨d,rfl⟩:∃d,i=k+d:=⟨i-k,Om⟩;have hd:d<8:=Om;rw[Nat.add_sub_cancel_left];have:d=0∨d=1∨d=2∨d=3∨d=4∨d=5∨d=6∨d=7:=Om;rcases this with rfl|rfl|rfl|rfl|rfl|rfl|rfl|rfl<;>simp[yh,List.getElem?_set,aa]<;>omega
    · rw[if_neg h2];simp only[yh,List.getElem?_set];grind
theorem Et (v:Nat) {j n:Nat} (h:j≤n):(bR v n).take j=bR v j:=by
  unfold bR;rw[←List.map_take,List.take_range,Nat.min_eq_left h]
theorem LP {cs:List Value} {P:List Nat} {k v j:Nat} (h:k+8≤cs.length) (hp:cs.take k=aa .u8 P) (hj:j≤8):(yh cs k v).take (k+j)=aa .u8 (P++bR v j):=by
  rw[lL, ←hp, ←Et v hj];apply List.ext_getElem?;grind [PN,aa,bJ,dE]
structure pA (CN:List Nat) (ls:List Nat) (R la:Nat) (ys:List Nat):Prop where
  len:ls.length=256
  hw:HW ls R la
  wh:gL ls
  R11:R≤11
  has:∀x,x<256→CN.getD x 0≠0→1≤ls.getD x 0
  tw:kF (bM ls R la) ys
theorem kF.bytes {ws ys:List Nat} (h:kF ws ys) (hw:dY ws 15) (h1:1≤ws.length):Bytes ys:=by
  rcases h with ⟨a,b⟩|⟨cs,b,a,c,d⟩
  · rw[b];intro x hx;rcases List.mem_append.1 hx with e|e
    · grind
    · exact Ai ws hw x e
  · rw[d];intro x hx;rcases List.mem_append.1 hx with e|e
    · grind
    · exact a.bytes x e
theorem kF.size {ws ys:List Nat} (h:kF ws ys):ys.length≤128:=by
  rcases h with ⟨a,b⟩|⟨cs,b,a,c,d⟩
  · grind [rU]
  · grind
section
variable {CN ls ys T:List Nat} {R la:Nat}
theorem pA.bytes (h:pA CN ls R la ys):Bytes ys:=by
  have hl:=h.hw.lt;have h1:=h.hw.Kc h.wh;refine h.tw.bytes (fun x hx=>Nat.le_trans ((tu:dY (bM ls R la) R) x hx) (by have:=h.R11;omega)) ?_;grind [j5]
end
theorem ff.tab {CN:List Nat} {T:List (Nat × Nat)} {sl R:Nat} {ys:List Nat} (h:ff CN T sl R) (j6:2≤sl∧sl≤256) (hz:∀x,sl≤x→x<256→CN.getD x 0=0) (hl:CN.getD (sl-1) 0≠0) (hR:R≤11) {a b:Nat} (LF:a≠b) (ha:a<256) (hb:b<256) (V2:CN.getD a 0≠0) (AK:CN.getD b 0≠0)
    (ht:kF (bM (gI T sl) R (sl-1)) ys):pA CN (gI T sl) R (sl-1) ys:=by
  have eV:∀x,x<256→CN.getD x 0≠0→x<sl:=fun x hx h0=>Classical.byContradiction fun hn=>h0 (hz x Om hx)
  exact⟨fX,h.hw Om hl,h.whole j6.2 hR LF (eV a ha V2) (eV b hb AK) V2 AK,hR,fun x hx h0=>(h.has j6.2 (eV x hx h0) h0).1,ht⟩
def aCu (p:Bool) (ls ys:List Nat):Prop:=match p with
  |false=>ajV ls ys
  |true=>ajW ls ys
def PO (f:Bool) (ls t ys:List Nat):Prop:=match f with
  |false=>ib ls∧(∀c ∈ t,c<ls.length∧1≤ls.getD c 0∧ls.getD c 0≤11)∧Bytes ys∧ys.length=tN (lH ls) t/8+1∧tailV ys 0 (tN (lH ls) t/8+1)=2^tN (lH ls) t+bitsV (codeBits ls t)
  |true=>∃Y:List (List Nat),Y.length=4∧(∀j,j<4→Gy ls (vQ t ((t.length+3)/4) j) (Y.getD j []))∧ys=mD (Y.take 3)++Y.flatten
theorem Eu {ls:List Nat}:∀t:List Nat,(∀c ∈ t,ls.getD c 0≤11)→tN (lH ls) t≤11*t.length
  |[],_=>by simp[tN]
  |c::t,h=>by
    have h1:=Eu t (fun x hx=>h x (List.mem_cons_of_mem _ hx));grind [tN,lH]
theorem PO.four {ls t ys:List Nat} (h:PO true ls t ys) (h6:3*((t.length+3)/4)<t.length):∃bQ cc cl cW,GM ys t ls ((t.length+3)/4) (t.length-3*((t.length+3)/4)) bQ cc cl cW∧ys.length≤1048576:=by
  obtain⟨Y,h1,h2,h3⟩:=h;obtain⟨a,b,c,d,hF⟩:=GM.of (xs:=ys) (t:=t) (m3:=t.length-3*((t.length+3)/4)) h1 h2 h3 Om Om;refine⟨a,b,c,d,hF,?_⟩;have e:=Au h1;have p0:=(h2 0 Om).len;have p1:=(h2 1 Om).len;have p2:=(h2 2 Om).len;have p3:=(h2 3 Om).len;rw[h3,e];have hh:(mD ([Y.getD 0 [],Y.getD 1 [],Y.getD 2 [],Y.getD 3 []].take 3)).length=6:=rfl;grind
theorem Ks {ls:List Nat} {L last c:Nat} (h:HW ls L last) (hw:gL ls) (hc:1≤ls.getD c 0):c<256∧jr ls c<2^ls.getD c 0:=by
  have ht:=(OR (r:=(List.range 16).map (startW (kQ ls L last))) (dt:=List.replicate 2048 0) h hw hw.even Oi (fun w h1 h2=>by
    have hL:=h.L11 hw;rw[List.getD_eq_getElem?_getD,List.getElem?_map,List.getElem?_range Om];rfl) List.length_replicate).1
  have:=ht.one c hc;exact⟨this.1,this.2.2.2⟩
structure B3 (ls text:List Nat):Prop where
  len:∀c ∈ text,1≤ls.getD c 0∧ls.getD c 0≤11
  lt:∀c ∈ text,jr ls c<2^ls.getD c 0
def v7 (ls text P:List Nat) (C nb i:Nat):Prop:=mM P C nb (tN (lH ls) (text.drop i)) (bitsV (codeBits ls (text.drop i)))
section
variable {ls text P:List Nat} {C nb i:Nat}
theorem v7.begin:v7 ls text [] 0 0 text.length:=by
  unfold v7;rw[List.drop_length];exact mM.begin rfl rfl
theorem Ha {c:Nat} {t:List Nat} (h:jr ls c<2^ls.getD c 0):bitsV (codeBits ls (c::t))=bitsV (codeBits ls t)+jr ls c*2^tN (lH ls) t:=by
  rw[codeBits,nu,o8,kx,Nat.mod_eq_of_lt h,Nat.add_comm]
theorem v7.step (h:v7 ls text P C nb (i+1)) (hc:B3 ls text) (hi:i<text.length) {c x b:Nat} (ec:c=text.getD i 0) (ex:x=jr ls c) (eb:b=ls.getD c 0) (hb:nb+b≤63):v7 ls text P (C+x*2^nb) (nb+b) i:=by
  have hm:c ∈ text:=by rw[ec];exact iy hi
  have h1:=hc.lt c hm;grind [mM.add,v7,qx,Ha,mM,lH,tN]
theorem v7.flush (h:v7 ls text P C nb i) {k:Nat} (hk:8*k≤nb):v7 ls text (P++bR C k) (C/2^(8*k)) (nb-8*k) i:=mM.flush h hk
theorem v7.bound (h:v7 ls text P C nb i) (hc:B3 ls text):8*P.length+nb≤11*text.length:=by
  have h1:=mM.len h;have h2:=Eu (ls:=ls) (text.drop i) fun c Gf=>(hc.len c (List.mem_of_mem_drop Gf)).2
  grind
theorem v7.fin (h:v7 ls text P C nb 0) (hb:nb≤62) {k:Nat} (hk:k=(nb+1+7)/8):Bytes (P++bR (C+1*2^nb) k)∧(P++bR (C+1*2^nb) k).length=tN (lH ls) text/8+1∧tailV (P++bR (C+1*2^nb) k) 0 (tN (lH ls) text/8+1)=2^tN (lH ls) text+bitsV (codeBits ls text):=by
  have h1:=(mM.add h (x:=1) (b:=1) Od Om).align hk;grind
theorem v7.four (h:v7 ls text P C nb (i+4)) (hc:B3 ls text) (hi:i+3<text.length) (hb:nb≤19) {a0 a1 a2 a3 b0 b1 b2 b3:Nat} (e0:a0=jr ls (text.getD i 0)) (e1:a1=jr ls (text.getD (i+1) 0)) (e2:a2=jr ls (text.getD (i+2) 0)) (e3:a3=jr ls (text.getD (i+3) 0)) (f0:b0=ls.getD (text.getD i 0) 0) (f1:b1=ls.getD (text.getD (i+1) 0) 0) (f2:b2=ls.getD (text.getD (i+2) 0) 0) (f3:b3=ls.getD (text.getD (i+3) 0) 0):
    v7 ls text P (C+(a3+a2*2^b3+a1*2^(b3+b2)+a0*2^(b3+b2+b1))*2^nb) (nb+(b3+b2+b1+b0)) i∧b0≤11∧b1≤11∧b2≤11∧b3≤11∧a3<2^b3∧a2<2^b2∧a1<2^b1∧a0<2^b0:=by
  have g:∀j,j<text.length→ls.getD (text.getD j 0) 0≤11∧jr ls (text.getD j 0)<2^ls.getD (text.getD j 0) 0:=fun j hj=>⟨(hc.len _ (iy hj)).2,hc.lt _ (iy hj)⟩
  have g0:=g i Om;have g1:=g (i+1) Om;have g2:=g (i+2) Om;have g3:=g (i+3) Om;rw[←e0, ←f0] at g0;rw[←e1, ←f1] at g1;rw[←e2, ←f2] at g2;rw[←e3, ←f3] at g3;have s3:=v7.step (i:=i+3) h hc Om rfl e3 f3 Om;have s2:=v7.step (i:=i+2) s3 hc Om rfl e2 f2 Om;have s1:=v7.step (i:=i+1) s2 hc Om rfl e1 f1 Om;have s0:=v7.step (i:=i) s1 hc Om rfl e0 f0 Om;refine⟨?_,g0.1,g1.1,g2.1,g3.1,g3.2,g2.2,g1.2,g0.2⟩;have eC:C+a3*2^nb+a2*2^(nb+b3)+a1*2^(nb+b3+b2)+a0*2^(nb+b3+b2+b1)=C+(a3+a2*2^b3+a1*2^(b3+b2)+a0*2^(b3+b2+b1))*2^nb:=by
    grind
  rw[←eC,show nb+(b3+b2+b1+b0)=nb+b3+b2+b1+b0 by omega];exact s0
end
def PQ (b o:Nat) (cs:List Value) (b' o':Nat) (O:au):Prop:=(b'=b∧o'=o∧O=⟨0,0,[],none⟩)∨(O.b=b∧O.o=o∧O.cs=cs)
def iW (b o n:Nat) (P:List Nat) (b' o':Nat) (O:au):Prop:=(b'=b∧o'=o∧O=⟨0,0,[],none⟩)∨(O.b=b∧O.o=o∧O.cs.take n=aa .u8 P)
theorem PQ.n {b o b' o' n:Nat} {cs:List Value} {O:au} {P:List Nat} (h:PQ b o cs b' o' O) (hp:cs.take n=aa .u8 P):iW b o n P b' o' O:=by
  rcases h with h|⟨h1,h2,h3⟩
  · exact .inl h
  · exact .inr ⟨h1,h2,by rw[h3];exact hp⟩
theorem iW.same {b o n:Nat} {P:List Nat}:iW b o n P b o ⟨0,0,[],none⟩:=.inl ⟨rfl,rfl,rfl⟩
theorem iW.less {b o b' o' n m:Nat} {O:au} {P:List Nat} (h:iW b o n P b' o' O) (hm:m≤n):iW b o m (P.take m) b' o' O:=by
  rcases h with h|⟨h1,h2,h3⟩
  · exact .inl h
  · refine .inr ⟨h1,h2,?_⟩;have e:O.cs.take m=(O.cs.take n).take m:=by rw[List.take_take,Nat.min_eq_left hm]
    simp_all [aa]
section
variable {P:Program} {K:Kx} {Q:Exit→Act→World→Prop} {ρ:aB} {l r:List au} {o:Oper} {v:Value} {x y z:Operand} {t s f sz n m c lo hi len cap b q j d:Nat} {k k':IntKind}
theorem At.PR {a:Act} {w:World} {s t:au} {i:Nat} (h:At K ρ (s::l) r a w) (hi:nthS i l=some t):At K ρ (t::setS i s l) r a w:=(h.perm (uS i s t l hi)).perm List.perm_append_comm
theorem At.tl {a:Act} {w:World} {s:au} (h:At K ρ (s::l) r a w):At K ρ l r a w:=(h.perm (List.perm_append_singleton s l).symm).left
section
variable {b0 o0 n0 b1 o1 n1 b2 o2:Nat} {P0 P1:List Nat} {O1 O2:au}
end
theorem ac1 {ca:Call} {q q2:Option Addr} {b o' c2 e mW:Nat} {cs zs news:List Value} {sh:Option (TypeId × Nat)} (i:Nat) (ho:o.op=.call ca) (hc:ca.callee=.builtin .append) (f':evs ρ ca.args.toList=some [.slice q n cap,.slice q2 m c2]) (uB:ca.argTypes= #[t,t]) (hP:ez P t=some (e,zs,sz,mW)) (hz:zs.length=sz)
    (hs:nthS i l=some ⟨b,o',cs,sh⟩) (hg:GS q b o' cs sz cap) (nk:Src l r q2 news) (PT:cap≤9223372036854775807) (hn:n≤cap∧0<sz∧(n+m)*mW≤140737488355328∧n+m≤9223372036854775807) (hlen:news.length=m*sz) (h1:(news.all fun u=>u.oneCell')=true) (hd:o.dst=some d) (rG:Nat.blt d K.n=true):
    kC P K ρ l r o (fun ρ' l'=>∃q' b' F5 gU gk O,GS q' b' F5 gU sz gk∧n+m≤gk∧gU.take ((n+m)*sz)=cs.take (n*sz)++news∧PQ b o' cs b' F5 O∧gk≤9223372036854775807∧ρ'=(d,.slice q' (n+m) gk)::ρ∧l'=O::setS i ⟨b',F5,gU,none⟩ l):=by
  intro a w ha nx Q mf;obtain⟨JQ,h0,hby,VT⟩:=hn;obtain⟨i',zv,hu,hi,rM,lK,vL,DD⟩:=gq hP;have rN:∀w,(sizeOf e).run P w=.ok sz w:=cH (by simp[eW,hi,vL]);have iJ:=kK ha.fr f';have WZ:∀u ∈ news,u.oneCell'=true:=fun u hu=>List.all_eq_true.1 h1 u hu
  have kE:∀(u:Value) (w':World),(Builtin.append_ #[t,t] o.type #[.slice q n cap,.slice q2 m c2]).run P w=.ok u w'→(execOp a.eval o).run P w=.ok (.value u) w':=fun u w' h=>by
    simp[execOp,ho,resolve,hc,iJ,invoke,builtin,uB,h]
  have Af:zv.cells.size=sz:=by rw[←hz, ←lK];simp
  have Z9:cs.length=cap*sz:=hg.len;unfold Oper.wp;by_cases jm:n+m≤cap
  · -- within the room
    have hle:(n+m)*sz≤cap*sz:=Nat.mul_le_mul_right _ jm;rw[Nat.add_mul] at hle;have fin:∀(w':World) (q':Option Addr),At K ρ (setS i ⟨b,o',spl cs (n*sz) news,none⟩ l) r a w'→q'=q→
        nx (a.put (some d) (.slice q' (n+m) cap)) w':=fun w' q' hA hq'=>by
      subst hq';refine mf _ _ ⟨_,_,⟨q',b,o',spl cs (n*sz) news,cap,⟨0,0,[],none⟩,⟨by rw[lf];exact Z9,hg.ad⟩,jm,?_,.inl ⟨rfl,rfl,rfl⟩,PT,rfl,rfl⟩,(hA.empty 0 0).put rG _⟩;grind [DC]
    have as6:∀w',At K ρ (setS i ⟨b,o',spl cs (n*sz) news,sh⟩ l) r a w'→At K ρ (setS i ⟨b,o',spl cs (n*sz) news,none⟩ l) r a w':=fun w' hA=>by
      exact((hA.perm (iK i _ _ l hs)).lJ).perm (iK i _ _ l hs).symm
    rcases nk.cells ha with DE|⟨ad,N6,jn⟩
    · -- nothing is appended
      subst DE;have hm:m=0:=by
        rcases Nat.mul_eq_zero.1 (show m*sz=0 by simpa using hlen.symm) with h|h
        · exact h
        · omega
      subst hm;have DF:(Builtin.firstCells sz 0 (.slice q2 0 c2)).run P w=.ok #[] w:=by
        cases q2<;>simp[Builtin.firstCells,loadCells,loadCellsFrom]
      have hr:(Builtin.append_ #[t,t] o.type #[.slice q n cap,.slice q2 0 c2]).run P w=.ok (.slice q (n+0) cap) w:=by
        cases q<;>simp[Builtin.append_,aK hu,rN,Builtin.lenOf,jm,JQ,DF,storeCells]
      rw[kE _ _ hr];simp only[Oper.upon,hd];grind [spl,au,gY]
    · by_cases MF:m=0
      · subst MF;simp at hlen;subst hlen;have DF:(Builtin.firstCells sz 0 (.slice q2 0 c2)).run P w=.ok #[] w:=by
          cases q2<;>simp[Builtin.firstCells,loadCells,loadCellsFrom]
        have hr:(Builtin.append_ #[t,t] o.type #[.slice q n cap,.slice q2 0 c2]).run P w=.ok (.slice q (n+0) cap) w:=by
          cases q<;>simp[Builtin.append_,aK hu,rN,Builtin.lenOf,jm,JQ,DF,storeCells]
        rw[kE _ _ hr];simp only[Oper.upon,hd];grind [spl,au,gY]
      · have hq:q=some ⟨b,o',none⟩:=hg.ay Om;subst hq;subst N6;have DF:=run_firstCells_some (P:=P) w sz m ad m c2 news hlen jn;obtain⟨w',W4,hA⟩:=fP (P:=P) news 0 (n*sz) l w ⟨b,o',cs,sh⟩ i b (o'+n*sz) ha hs rfl Oi Oz WZ;have hr:(Builtin.append_ #[t,t] o.type #[.slice (some ⟨b,o',none⟩) n cap,.slice (some ad) m c2]).run P w=.ok (.slice (some ⟨b,o',none⟩) (n+m) cap) w':=by
          simp[Builtin.append_,aK hu,rN,Builtin.lenOf,jm,DF,df,W4]
        rw[kE _ _ hr];simp only[Oper.upon,hd];grind
  · -- it grows
    have MF:0<m:=Om;have ajM:news≠[]:=by
      intro e;subst e;rcases Nat.mul_eq_zero.1 (show m*sz=0 by simpa using hlen.symm) with h|h<;>omega
    rcases nk.cells ha with DE|⟨ad,N6,jn⟩
    · grind
    subst N6;have N7:Builtin.nextslicecap (n+m) cap*i'.bytes≤281474976710656:=growslice_fits Om (by rw[DD];exact hby);have fin:∀(C:Nat) (rO rest:List Value),n+m≤C→C≤9223372036854775807→rO=cs.take (n*sz)→rest.length=(C-(n+m))*sz→
        nx (a.put (some d) (.slice (some ⟨w.heap.size,0,none⟩) (n+m) C)) (w.drew.alloc (.cells (rO.toArray++news.toArray++rest.toArray) e)):=fun C rO rest hC hCm ho' hr=>by
      have hA:=((ha.drew.alloc (rO.toArray++news.toArray++rest.toArray) e).lJ).PR hs;have hol:rO.length=n*sz:=by
        simp_all
      have hCC:C*sz=(n+m)*sz+(C-(n+m))*sz:=by rw[←Nat.add_mul];congr 1;omega
      refine mf _ _ ⟨_,_,⟨some ⟨w.heap.size,0,none⟩,w.heap.size,0,(rO.toArray++news.toArray++rest.toArray).toList,C,⟨b,o',cs,sh⟩,⟨?_,.inl rfl⟩,hC,?_,.inr ⟨rfl,rfl,rfl⟩,hCm,rfl,rfl⟩,hA.put rG _⟩
      · grind
      · have h2:(n+m)*sz=(rO++news).length:=by simp[hol,hlen,Nat.add_mul]
        grind
    have wR:=grownCap_ge w (n+m) cap e;have hgl:grownCap w (n+m) cap e≤9223372036854775807:=grownCap_le_maxLen w (n+m) cap e VT;have DG:∀N,(Builtin.zeroCells zv.cells N).toList.length=N*sz:=fun N=>by simp[Builtin.zeroCells,Af]
    rcases hg.ad with hq|⟨hq,wC⟩
    · subst hq;have vD:∀j u,(cs.take (n*sz))[j]? =some u→w.cell? ((⟨b,o',none⟩:Addr).add j)=some u:=fun j u hj=>by
        rw[df];have jO:=ha.st.hl _ (dq _ _ _ hs);rw[List.getElem?_take] at hj;split at hj
        · exact jO.1 _ _ hj
        · cases hj
      have hr:=run_append_grow (P:=P) w t o.type e i' zv hu hi rM ⟨b,o',none⟩ n cap (cs.take (n*sz)) (by
        have:n*sz≤cap*sz:=Nat.mul_le_mul_right _ JQ;rw[List.length_take,vL];omega) vD ad m c2 news (by rw[vL];exact hlen) jn Om Om N7
      rw[kE _ _ hr];simp only[Oper.upon,hd];have:=fin (grownCap w (n+m) cap e) _ (Builtin.zeroCells zv.cells (grownCap w (n+m) cap e-(n+m))).toList wR hgl rfl (DG _);omega
    · subst hq;subst wC;obtain rfl:n=0:=Om;have hr:=run_append_nil (P:=P) w t o.type e i' zv hu hi rM ad m c2 news (by rw[vL];exact hlen) jn Om Om (by
        grind)
      rw[kE _ _ hr];simp only[Oper.upon,hd];have:=fin (grownCap w m 0 e) [] (Builtin.zeroCells zv.cells (grownCap w m 0 e-m)).toList (by simpa using wR) (by simpa using hgl) Oi (by simpa using DG _);simp_all
theorem B4 {ca:Call} {q q2:Option Addr} {b o' c2 e mW:Nat} {cs zs:List Value} {xs ys:List Nat} {sh:Option (TypeId × Nat)} (i:Nat) (ho:o.op=.call ca) (hc:ca.callee=.builtin .append) (f':evs ρ ca.args.toList=some [.slice q n cap,.slice q2 m c2]) (uB:ca.argTypes= #[t,t]) (hP:ez P t=some (e,zs,1,mW)) (hz:zs.length=1)
    (hs:nthS i l=some ⟨b,o',cs,sh⟩) (hg:GS q b o' cs 1 cap) (hp:cs.take n=aa .u8 xs) (nk:Src l r q2 (aa .u8 ys)) (PT:cap≤9223372036854775807) (hn:n≤cap∧(n+m)*mW≤140737488355328∧n+m≤9223372036854775807∧ys.length=m) (hd:o.dst=some d) (rG:Nat.blt d K.n=true):
    kC P K ρ l r o (fun ρ' l'=>∃q' b' F5 gU gk O,GS q' b' F5 gU 1 gk∧n+m≤gk∧gU.take (n+m)=aa .u8 (xs++ys)∧iW b o' n xs b' F5 O∧gk≤9223372036854775807∧ρ'=(d,.slice q' (n+m) gk)::ρ∧l'=O::setS i ⟨b',F5,gU,none⟩ l):=by
  intro a w ha nx Q mf;refine ac1 (K:=K) i ho hc f' uB hP hz hs hg nk PT ⟨hn.1,Om,hn.2.1,hn.2.2.1⟩ (by simp[hn.2.2.2]) (ep _) hd rG a w ha nx Q fun a' w' ⟨ρ',l',⟨q',b',F5,gU,gk,O,h1,h2,h3,h4,h4',h5,h6⟩,h7⟩=>mf a' w' ⟨ρ',l',⟨q',b',F5,gU,gk,O,h1,h2,?_,h4.n hp,h4',h5,h6⟩,h7⟩
  grind [lL]
end
section
variable {P:Program} {K:Kx} {Q:Exit→Act→World→Prop} {ρ:aB} {l r:List au} {o:Oper} {v:Value} {x y z:Operand} {t s f sz n m c lo hi len cap b q j d:Nat} {k k':IntKind}
theorem ac2 {ca:Call} {b o' e mW:Nat} {cs zs:List Value} {sh:Option (TypeId × Nat)} {kq kn:IntKind} {tn:TypeId} (i:Nat) (ho:o.op=.call ca) (hc:ca.callee=.builtin .append) (f':evs ρ ca.args.toList=some [.slice (some ⟨b,o',none⟩) n cap,.int kq ((m:Nat):Int)]) (uB:ca.argTypes= #[t,tn]) (hP:ez P t=some (e,zs,1,mW)) (hz:zs.length=1) (htn:P.underlying tn=some (.int kn))
    (hs:nthS i l=some ⟨b,o',cs,sh⟩) (hn:n≤cs.length∧0<m∧cap<n+m∧n≤cap∧(n+m)*mW≤140737488355328∧m*mW≤281474976710656∧n+m≤9223372036854775807) (hd:o.dst=some d) (rG:Nat.blt d K.n=true):
    kC P K ρ l r o (fun ρ' l'=>∃b' gU gk,gU.length=gk∧n+m≤gk∧gk≤9223372036854775807∧gU.take n=cs.take n∧ρ'=(d,.slice (some ⟨b',0,none⟩) (n+m) gk)::ρ∧l'=⟨b,o',cs,sh⟩::setS i ⟨b',0,gU,none⟩ l):=by
  intro a w ha nx Q mf;obtain⟨h1,h2,h3,h4,h5,h5',h6⟩:=hn;obtain⟨i',zv,hu,hi,rM,lK,vL,DD⟩:=gq hP;have iJ:=kK ha.fr f';have kE:∀(u:Value) (w':World),(Builtin.append_ #[t,tn] o.type #[.slice (some ⟨b,o',none⟩) n cap,.int kq ((m:Nat):Int)]).run P w=.ok u w'→(execOp a.eval o).run P w=.ok (.value u) w':=fun u w' h=>by
    simp[execOp,ho,resolve,hc,iJ,invoke,builtin,uB,h]
  have Af:zv.cells.size=1:=by rw[←hz, ←lK];simp
  have vD:∀j u,(cs.take n)[j]? =some u→w.drew.cell? ((⟨b,o',none⟩:Addr).add j)=some u:=fun j u hj=>by
    rw[df];have jO:=ha.drew.st.hl _ (dq _ _ _ hs);rw[List.getElem?_take] at hj;split at hj
    · exact jO.1 _ _ hj
    · cases hj
  have hold:=run_firstCells_some (P:=P) w.drew 1 n ⟨b,o',none⟩ n cap (cs.take n) (by rw[List.length_take];omega) vD;have N7:Builtin.nextslicecap (n+m) cap*i'.bytes≤281474976710656:=growslice_fits Om (by rw[DD];exact h5);have hr:=Lib.run_append_grow_zeros (P:=P) w t tn o.type e i' zv kq kn hu htn hi rM (some ⟨b,o',none⟩) n cap (cs.take n) (by rw[vL];exact hold) m h2 Om h3 Om (by rw[DD];exact h5') N7;have wR:=grownCap_ge w (n+m) cap e;have DG:∀N,(Builtin.zeroCells zv.cells N).toList.length=N:=fun N=>by simp[Builtin.zeroCells,Af]
  unfold Oper.wp;rw[kE _ _ hr];simp only[Oper.upon,hd];obtain⟨Z1,hZ1⟩:∃z,z=Builtin.zeroCells zv.cells m:=⟨_,rfl⟩;obtain⟨Z2,hZ2⟩:∃z,z=Builtin.zeroCells zv.cells (grownCap w (n+m) cap e-(n+m)):=⟨_,rfl⟩;rw[←hZ1, ←hZ2];have l1:Z1.toList.length=m:=by rw[hZ1];exact DG _
  have l2:Z2.toList.length=grownCap w (n+m) cap e-(n+m):=by rw[hZ2];exact DG _
  have hA:=((ha.drew.alloc ((cs.take n).toArray++Z1++Z2) e).lJ).PR hs;have hol:(cs.take n).length=n:=by rw[List.length_take];omega
  refine mf _ _ ⟨_,_,⟨w.heap.size,((cs.take n).toArray++Z1++Z2).toList,grownCap w (n+m) cap e,?_,wR,grownCap_le_maxLen w (n+m) cap e h6,?_,rfl,rfl⟩,hA.put rG _⟩
  · simp only[Array.toList_append,List.length_append,hol,l1,l2];omega
  · simp only[Array.toList_append];rw[List.append_assoc,List.take_left' hol]
end
def kG (b o n:Nat) (P:List Nat) (b' o':Nat) (D:List au):Prop:=(b'=b∧o'=o)∨∃O ∈ D,O.b=b∧O.o=o∧O.cs.take n=aa .u8 P
theorem kG.begin {b o n:Nat} {P:List Nat} {D:List au}:kG b o n P b o D:=.inl ⟨rfl,rfl⟩
theorem kG.push {b0 o0 n0 b1 o1 n1 b2 o2:Nat} {P0 P1:List Nat} {D:List au} {O:au} (h:kG b0 o0 n0 P0 b1 o1 D) (hO:iW b1 o1 n1 P1 b2 o2 O) (hn:n0≤n1) (hp:P1.take n0=P0):kG b0 o0 n0 P0 b2 o2 (O::D):=by
  rcases h with ⟨e1,e2⟩|⟨O',hm,h'⟩
  · subst e1;subst e2;have h3:=hO.less hn;rw[hp] at h3;rcases h3 with ⟨e1,e2,_⟩|h3
    · exact .inl ⟨e1,e2⟩
    · exact .inr ⟨O,List.mem_cons_self,h3⟩
  · exact .inr ⟨O',List.mem_cons_of_mem _ hm,h'⟩
theorem kG.more {b o n b' o':Nat} {P:List Nat} {D:List au} {O:au} (h:kG b o n P b' o' D):kG b o n P b' o' (O::D):=h.imp id fun ⟨O',hm,h'⟩=>⟨O',List.mem_cons_of_mem _ hm,h'⟩
section
variable {P:Program} {K:Kx} {Q:Exit→Act→World→Prop} {ρ:aB} {l r:List au}
theorem At.PU {a:Act} {w:World} {D:List au} {O:au} (h:At K ρ (l++D) r a w) (hO:O ∈ D):At K ρ (O::l) r a w:=by
  obtain⟨s,t,rfl⟩:=List.append_of_mem hO;have hp:(l++(s++O::t)).Perm ((O::l)++(s++t)):=by
    have h1:(s++O::t).Perm (O::(s++t)):=List.perm_middle;exact(h1.append_left l).trans List.perm_middle
  exact(h.perm hp).left
theorem At.lone {a:Act} {w:World} {b o n b' o':Nat} {P0:List Nat} {D:List au} (h:At K ρ (l++D) r a w) (hk:kG b o n P0 b' o' D):∃O,iW b o n P0 b' o' O∧At K ρ (O::l) r a w:=by
  rcases hk with ⟨e1,e2⟩|⟨O,hm,h'⟩
  · exact⟨⟨0,0,[],none⟩,.inl ⟨e1,e2,rfl⟩,h.left.empty 0 0⟩
  · exact⟨O,.inr h',h.PU hm⟩
theorem GQ.lone {e:Exit} {b o n b' o':Nat} {P0:List Nat} {D:List au} (hk:kG b o n P0 b' o' D) (k:∀O,iW b o n P0 b' o' O→GQ K Q e ρ (O::l) r):GQ K Q e ρ (l++D) r:=fun a w ha=>by
  obtain⟨O,h1,h2⟩:=ha.lone hk;exact k O h1 a w h2
end
theorem XN (A B:List Nat) (x y:Nat):((A++0::0::B).set A.length x).set (A.length+1) y=A++x::y::B:=by
  simp_all
def hz (Y:List (List Nat)):List Nat:=mD (Y.take 3)++List.replicate (6-2*min Y.length 3) 0
theorem nM:∀Y:List (List Nat),(mD Y).length=2*Y.length
  |[]=>rfl
  |y::Y=>by
    have:=nM Y;grind [mD]
theorem gB (Y:List (List Nat)):(hz Y).length=6:=by
  grind [hz,nM]
theorem XO {Y:List (List Nat)} {y base Q:List Nat} {n:Nat} (h:Y.length<3) (hn:y.length=n):(((base++(hz Y++Q)).set (base.length+2*Y.length) (n%256)).set (base.length+2*Y.length+1) (n/2^8))=base++(hz (Y++[y])++Q):=by
  have e1:hz Y=mD Y++0::0::List.replicate (4-2*Y.length) 0:=by
    rw[hz,List.take_of_length_le Om,show 6-2*min Y.length 3=(4-2*Y.length)+1+1 by omega,List.replicate_succ,List.replicate_succ]
  have e2:hz (Y++[y])=mD Y++(n%256)::(n/2^8)::List.replicate (4-2*Y.length) 0:=by
    have h2:=Gz (y:=y) h hn;rw[List.take_of_length_le (l:=Y) Om] at h2;grind [hz]
  grind [XN,mD,nM]
theorem XP {Y:List (List Nat)} {y:List Nat} (h:Y.length=3):hz (Y++[y])=hz Y:=by
  grind [hz]
theorem atr (d:Nat):∃q:Int,Int.tdiv ((d:Int)-8) 6=q∧(q≤0→d<14)∧(0<q→6*q+8≤d∧14≤d)∧q≤d∧ -8≤q:=by
  refine⟨_,rfl,?_⟩;rcases Nat.lt_or_ge d 8 with h|h
  · have:d=0∨d=1∨d=2∨d=3∨d=4∨d=5∨d=6∨d=7:=Om;rcases this with rfl|rfl|rfl|rfl|rfl|rfl|rfl|rfl<;>decide
  · obtain⟨e,rfl⟩:∃e,d=e+8:=⟨d-8,Om⟩;have:((e+8:Nat):Int)-8=(e:Int):=Om;rw[this];have h2:Int.tdiv (e:Int) 6=((e/6:Nat):Int):=rfl;rw[h2];omega
theorem PV {P:Program} {ρ:aB} {o:Oper} {x y:Operand} {a b q:Int} {ty bY:TypeId} (ho:o.op=.binOp .quo ty x y bY) (hx:ev ρ x=some (.int .i64 a)) (hy:ev ρ y=some (.int .i64 b)) (hb:b≠0) (e:a.tdiv b=q) (hr: -9223372036854775808≤q∧q≤9223372036854775807):aH P ρ o (.int .i64 q):=(xv ho hx hy hb).cast (by rw[e,IntWalk.i64_in _ hr])
theorem tU {T:List (Nat × Nat)} {ls text:List Nat} {i:Nat} (hT:∀c ∈ text,T.getD c (0,0)=(jr ls c,ls.getD c 0)) (hi:i<text.length) {c:Nat} (hc:c=text.getD i 0):(T.getD c (0,0)).1=jr ls c∧(T.getD c (0,0)).2=ls.getD c 0:=by
  have hm:c ∈ text:=by rw[hc];exact iy hi
  rw[hT c hm];exact⟨rfl,rfl⟩
theorem w5 {xs:List Nat} {n k j:Nat} (h:j<n):((xs.drop k).take n).getD j 0=xs.getD (k+j) 0:=by simp[List.getD_eq_getElem?_getD,List.getElem?_take,h,List.getElem?_drop]
structure Ctx (xs CN:List Nat) (i:Nat):Prop where
  len:CN.length=256
  get:∀v,v<256→CN.getD v 0=(xs.take i).count v
theorem Ctx.begin {xs:List Nat}:Ctx xs (List.replicate 256 0) 0:=⟨List.length_replicate,fun v _=>by rw[mN,List.take_zero];rfl⟩
theorem Ctx.step {xs CN:List Nat} {i c:Nat} (h:Ctx xs CN i) (hi:i<xs.length) (hc:c=xs.getD i 0) (DK:c<256):Ctx xs (CN.set c (CN.getD c 0+1)) (i+1):=by
  have hl:=h.len;refine⟨by simp[hl],fun v hv=>?_⟩;rw[aS Om,iE hi, ←hc];split
  · rename_i e;rw[←e,h.get c DK]
  · rename_i e;rw[h.get v hv];rfl
theorem Ctx.le {xs CN:List Nat} {i:Nat} (h:Ctx xs CN i) (hi:i≤xs.length) {v:Nat} (hv:v<256):CN.getD v 0≤i:=by
  rw[h.get v hv];refine Nat.le_trans List.count_le_length ?_;grind
theorem Ctx.pos {xs CN:List Nat} (h:Ctx xs CN xs.length) (hb:Bytes xs) {c:Nat} (hc:c ∈ xs):CN.getD c 0≠0:=by
  rw[h.get c (hb c hc),List.take_length];grind
structure vk (ls xs zs:List Nat):Prop where
  bytes:Bytes zs
  len:zs.length=tN (lH ls) xs/8+1
  val:tailV zs 0 (tN (lH ls) xs/8+1)=2^tN (lH ls) xs+bitsV (codeBits ls xs)
theorem B3.sub {ls xs ys:List Nat} (h:B3 ls xs) (hs:∀c ∈ ys,c ∈ xs):B3 ls ys:=⟨fun c hc=>h.len c (hs c hc),fun c hc=>h.lt c (hs c hc)⟩
def MN (xs:List Nat) (sg j:Nat):List Nat:=(xs.drop (j*sg)).take sg
theorem tV {xs:List Nat} {sg j c:Nat} (h:c ∈ MN xs sg j):c ∈ xs:=List.mem_of_mem_drop (List.mem_of_mem_take h)
structure V4 (ls xs:List Nat) (sg i:Nat) (Y:List (List Nat)):Prop where
  len:Y.length=i
  get:∀j,j<i→vk ls (MN xs sg j) (Y.getD j [])∧(Y.getD j []).length≤65535
theorem V4.begin {ls xs:List Nat} {sg:Nat}:V4 ls xs sg 0 []:=⟨rfl,fun j h=>Om⟩
theorem PW {α:Type} {Y:List α} {y d:α}:(Y++[y]).getD Y.length d=y:=by simp[List.getD_eq_getElem?_getD]
theorem Hb {α:Type} {Y:List α} {y d:α} {j:Nat} (h:j<Y.length):(Y++[y]).getD j d=Y.getD j d:=by simp[List.getD_eq_getElem?_getD,List.getElem?_append_left h]
theorem V4.step {ls xs:List Nat} {sg i:Nat} {Y:List (List Nat)} {y:List Nat} (h:V4 ls xs sg i Y) (hy:vk ls (MN xs sg i) y) (hl:y.length≤65535):V4 ls xs sg (i+1) (Y++[y]):=by
  have hL:=h.len;refine⟨by simp[hL],fun j hj=>?_⟩;by_cases e:j=i
  · rw[e, ←hL,PW,hL];exact⟨hy,hl⟩
  · rw[Hb Om];exact h.get j Om
theorem qK {Y:List (List Nat)} {y:List Nat}:(Y++[y]).flatten=Y.flatten++y:=by simp
theorem Rd.as {q:Option Addr} {n:Nat} {k:IntKind} {xs ys:List Nat} {s:au} {j:Nat} (h:Rd q n 1 (aa k xs) s j) (e:xs=ys):Rd q n 1 (aa k ys) s j:=e▸h
theorem AL {xs:List Nat} {sg i n t:Nat} (hn:n=xs.length-i*sg) (h1:t≤n) (h2:t=sg∨t=n) (h3:t≤sg):((xs.drop (i*sg)).drop t).take (n-t)=xs.drop ((i+1)*sg):=by
  rw[List.take_of_length_le Oz,List.drop_drop,Nat.add_mul,Nat.one_mul];rcases h2 with h|h
  · rw[h]
  · by_cases e:t=sg
    · rw[e]
    · rw[List.drop_of_length_le Om,List.drop_of_length_le Om]
theorem PX {xs:List Nat} {sg i n:Nat} (hn:n=xs.length-i*sg) (h:n≤sg):xs.drop (i*sg)=MN xs sg i:=(List.take_of_length_le Oz).symm
def km (ls xs zs:List Nat):Prop:=∃Y,V4 ls xs ((xs.length+3)/4) 4 Y∧zs=hz Y++Y.flatten
def okV (ok:Bool) (v:Value):Value:=match ok with
  |true=>v
  |false=>.slice none 0 0
theorem ac3:Array.range 6= #[0,1,2,3,4,5]:=by decide
theorem AM:∀{xs:List Nat},Bytes xs→sm (fun v=>xs.count v) 256=xs.length
  |[],_=>by
    have:sm (fun v=>([]:List Nat).count v) 256=sm (fun _=>0) 256:=bB fun i _=>by simp
    rw[this,fV];rfl
  |x::xs,h=>by
    have h1:sm (fun v=>(x::xs).count v) 256=sm (fun v=>xs.count v+(if v=x then 1 else 0)) 256:=bB fun i _=>by
      rw[List.count_cons];by_cases e:i=x
      · rw[if_pos e,if_pos (by rw[e];exact beq_self_eq_true x)]
      · rw[if_neg e,if_neg (by simpa using fun h=>e h.symm)]
    rw[h1,wX,AM (fun y hy=>h y (List.mem_cons_of_mem _ hy)),x7 (h x List.mem_cons_self)]
    rfl
section
variable {xs CN:List Nat} {n iZ mx sy:Nat}
theorem Ctx.sum (h:Ctx xs CN n) (hn:xs.length=n) (hb:Bytes xs):sm (nL CN) 256=n:=by
  rw[←hn, ←AM hb];refine bB fun i hi=>?_
  show CN.getD i 0=_;rw[h.get i hi, ←hn,List.take_length]
theorem Ctx.max (h:Ctx xs CN n) (hn:xs.length=n) (hb:Bytes xs) (hc:py CN 256 iZ mx sy):mx≤n∧(0<n→1≤mx):=by
  have hle:∀v,v<256→CN.getD v 0≤n:=fun v hv=>h.le Om hv
  refine⟨?_,fun h0=>?_⟩
  · rcases hc.me with e|⟨x,hx,e⟩
    · omega
    · have:=hle x hx;omega
  · have hm:xs.getD 0 0 ∈ xs:=iy Om;have h1:=h.le (i:=n) Om (hb _ hm);have h2:=hc.mb _ (hb _ hm);have h3:CN.getD (xs.getD 0 0) 0≠0:=by
      have h':=h;rw[←hn] at h';exact h'.pos hb hm
    omega
theorem Ctx.two (h:Ctx xs CN n) (hn:xs.length=n) (hb:Bytes xs) (hc:py CN 256 iZ mx sy) (h0:0<n) (hm:mx<n):∃a b,a≠b∧a<256∧b<256∧CN.getD a 0≠0∧CN.getD b 0≠0:=by
  have h':=h;rw[←hn] at h';have h1:=(h.max hn hb hc).2 h0;rcases hc.me with e|⟨x,hx,e⟩
  · omega
  · have hcx:xs.count x=mx:=by rw[←e,h'.get x hx,List.take_length]
    have:¬∀b ∈ xs,x=b:=fun ha=>by
      have:=List.count_eq_length.2 ha;omega
    obtain⟨b,rW,n9⟩:∃b,b ∈ xs∧x≠b:=by
      apply Classical.byContradiction;intro F7;exact this fun b uD=>by
        apply Classical.byContradiction;intro h5;exact F7 ⟨b,uD,h5⟩
    exact⟨x,b,n9,hx,hb b rW,Om,h'.pos hb rW⟩
theorem pA.cds {ls:List Nat} {R la:Nat} {ys:List Nat} (h:pA CN ls R la ys) (hC:Ctx xs CN n) (hn:xs.length=n) (hb:Bytes xs):B3 ls xs:=by
  have hC':=hC;rw[←hn] at hC';have g:∀c ∈ xs,1≤ls.getD c 0:=fun c hc=>h.has c (hb c hc) (hC'.pos hb hc)
  exact⟨fun c hc=>⟨g c hc,h.wh.2.1.at_ c⟩,fun c hc=>(Ks h.hw h.wh (g c hc)).2⟩
theorem ff.cds {T:List (Nat × Nat)} {sl R:Nat} (h:ff CN T sl R) (hco:B1 T sl) (hC:Ctx xs CN n) (hn:xs.length=n) (hb:Bytes xs) (j6:sl≤256) (hz:∀x,sl≤x→x<256→CN.getD x 0=0):∀c ∈ xs,T.getD c (0,0)=(jr (gI T sl) c,(gI T sl).getD c 0):=fun c hc=>by
  have hC':=hC;rw[←hn] at hC';have h0:=hC'.pos hb hc;have zu:c<sl:=by
    apply Classical.byContradiction;intro F7;exact h0 (hz c Om (hb c hc))
  have h1:=(h.some c zu h0).1;rw[dZ j6,if_pos zu, ←hco c zu h1]
end
def Pt (a:Addr) (s:au):Prop:=s.b=a.block∧a.spot=none∧∃m,s.o+m=a.off∧m<s.cs.length
def XQ (a0 a1 a2 a:Addr) (N:au):Prop:=a=a0∨a=a1∨a=a2∨Pt a N
end Go.Proofs.YtekcchgffhphbaaGreatDoor
namespace Go.Proofs.YtekcchgffhphbaaGreatDoor
open Go
end Go.Proofs.YtekcchgffhphbaaGreatDoor
namespace Go.Proofs.YtekcchgffhphbaaGreatDoor
section
variable {P:Program} {K:Kx} {Q:Exit→Act→World→Prop} {ρ:aB} {l r:List au} {o:Oper} {v:Value} {x y z:Operand} {t e n m cap q:Nat} {k:IntKind}
theorem XR {fn:Fn} {first cap:Array Operand} {fs:List Value} (ho:o.op=.makeFunc fn first cap) (hf:evs ρ first.toList=some fs) (hc:cap= #[]):aH P ρ o (.func fn fs.toArray #[]):=fun ac ha w=>by
  have h1:first.map ac.eval=fs.toArray:=by
    have:=oV ha _ _ hf;apply Array.toList_inj.1;simpa using this
  subst hc;simp[execOp,ho,Instr.makeFunc,h1,Sem.run_pure]
theorem Kt {c:Call} {f:FuncId} {args fs:List Value} {cal:Operand} {lc rest rc:List au} {dz:Value→List au→Prop} {d:Nat} (is rs:List Nat) (uJ:aE P f (fs++args) lc rc dz) (ho:o.op=.call c) (hf:c.callee=.value cal) (ats:ev ρ cal=some (.func (.func f) fs.toArray #[])) (f':evs ρ c.args.toList=some args)
    (hl:pickS is l=some (lc,rest)) (hr:pickR rs (rest++r)=some rc) (hd:o.dst=some d) (hn:Nat.blt d K.n=true):
    kC P K ρ l r o (fun ρ' l'=>∃v wy,dz v wy∧ρ'=(d,v)::ρ∧l'=wy++rest):=by
  intro a w ha nx Q mf;have hA:=ha.perm (iI _ _ _ _ hl);have ME:=uO _ _ _ hr;have hca:=uJ.run w (hA.st.N3 ME);have iJ:(c.args.map a.eval)=args.toArray:=by
    have:=oV ha.fr _ _ f';apply Array.toList_inj.1;simpa using this
  have akz:=bf ha.fr ats;have e:(execOp a.eval o).run P w=.ok (.enter f (fs++args).toArray) w:=by
    have hcf:=ng uJ.can;simp[execOp,ho,resolve,hf,iJ,akz,Deferred.ofValue,invoke,hcf]
  unfold Oper.wp;rw[e];simp only[Oper.upon];refine hca.mono fun e w' hE=>?_
  obtain⟨v,wy,rfl,hP,hk,ie,Dy⟩:=hE.out;simp only[hd];exact mf _ _ ⟨(d,v)::ρ,wy++rest,⟨v,wy,hP,rfl,rfl⟩,(hA.uP ME hk ie Dy).put hn v⟩
theorem qL {ca:Call} {q q2:Option Addr} {b o' c2 e mW d:Nat} {cs zs:List Value} {xs ys:List Nat} {sh:Option (TypeId × Nat)} (i:Nat) (ho:o.op=.call ca) (hc:ca.callee=.builtin .append) (f':evs ρ ca.args.toList=some [.slice q n cap,.slice q2 m c2]) (uB:ca.argTypes= #[t,t]) (hP:ez P t=some (e,zs,1,mW)) (hz:zs.length=1)
    (hs:nthS i l=some ⟨b,o',cs,sh⟩) (hg:GS q b o' cs 1 cap) (hp:cs.take n=aa .u8 xs) (nk:Src l r q2 (aa .u8 ys)) (PT:cap≤9223372036854775807) (hn:n≤cap∧(n+m)*mW≤140737488355328∧n+m≤9223372036854775807∧ys.length=m) (hd:o.dst=some d) (rG:Nat.blt d K.n=true):
    kC P K ρ l r o (fun ρ' l'=>∃q' b' F5 gU gk,GS q' b' F5 gU 1 gk∧n+m≤gk∧gU.take (n+m)=aa .u8 (xs++ys)∧gk≤9223372036854775807∧ρ'=(d,.slice q' (n+m) gk)::ρ∧l'=setS i ⟨b',F5,gU,none⟩ l):=by
  intro a w ha nx Q mf;refine B4 (K:=K) i ho hc f' uB hP hz hs hg hp nk PT hn hd rG a w ha nx Q fun a' w' ⟨ρ',l',⟨q',b',F5,gU,gk,O,h1,h2,h3,h4,h4',h5,h6⟩,h7⟩=>?_
  subst h6;exact mf a' w' ⟨ρ',_,⟨q',b',F5,gU,gk,h1,h2,h3,h4',h5,rfl⟩,h7.tl⟩
end
variable {P:Program} {ρ:aB} {o:Oper} {x y:Operand}
section
variable {P:Program} {w:World}
theorem yi {a:Addr} {c:Array Value} {T:TypeId} {f:Nat × Nat} (h:w.heap[a.block]? =some (.cells c T f)):(noView a).run P w=.ok () w:=by
  have hs:w.shape? a.block=some (T,c.size):=by simp[World.shape?,h]
  simp[noView,viewAt,hs]
theorem rv (a:Addr):∃b,(stringish a).run P w=.ok b w:=by
  cases hf:w.frozen? a with
  |true=>exact⟨true,by simp[stringish,hf]⟩
  |false=>
    cases hs:w.shape? a.block with
    |none=>exact⟨false,by simp[stringish,hf,hs]⟩
    |some x=>exact⟨w.frozen? ⟨a.block,x.2,none⟩,by simp[stringish,hf,hs]⟩
theorem B5 (a b:Addr):∃x,(mayBeOne a b).run P w=.ok x w:=by
  obtain⟨s,hs⟩:=rv (P:=P) (w:=w) a;obtain⟨t,ht⟩:=rv (P:=P) (w:=w) b;exact⟨_,by simp only[mayBeOne,Sem.run_bind,hs,ht,run_shape,Result.andThen_ok,Sem.run_pure];rfl⟩
theorem B7 {a b:Addr} {ca cb:Array Value} {Ta Tb:TypeId} {fa fb:Nat × Nat} (ha:w.heap[a.block]? =some (.cells ca Ta fa)) (hb:w.heap[b.block]? =some (.cells cb Tb fb)) (hf:w.frozen? a=false):∃x w',(sameAddr a b).run P w=.ok x w'∧(w'=w∨w'=w.drew):=by
  by_cases e:a.block=b.block
  · exact⟨a==b,w,by simp[sameAddr,e],.inl rfl⟩
  · obtain⟨m,hm⟩:=B5 (P:=P) (w:=w) a b;have h1:=yi (P:=P) ha;have h2:=yi (P:=P) hb;cases m with
    |false=>exact⟨false,w,by simp[sameAddr,e,hf,h1,h2,hm],.inl rfl⟩
    |true=>exact⟨_,w.drew,by simp[sameAddr,e,hf,h1,h2,hm];rfl,.inr rfl⟩
theorem PY {ti tp te:TypeId} {ms:Array (String × TypeId)} {i j:TypeInfo} {a b:Addr} {x:Bool} {w':World} (hi:P.underlying ti=some (.interface ms)) (hp:P.underlying tp=some (.pointer te)) (akA:P.info? tp=some i) (akB:i.comparable=true) (hte:P.info? te=some j) (vL:j.size≠0) (h:(sameAddr a b).run P w=.ok x w'):
    (binOp .eql ti (.iface tp (.pointer (some a))) (.iface tp (.pointer (some b)))).run P w=.ok (.bool x) w':=by
  have h2:∀d:Nat,(Op.equalIn (d+2) ti (.iface tp (.pointer (some a))) (.iface tp (.pointer (some b)))).run P w=.ok x w':=fun d=>by
    simp[Op.equalIn,run_underlying hi,run_underlying hp,typeInfo,akA,akB,sizeOf,hte,vL,h]
  simp only[binOp];simp[Op.equal,Op.maxDepth,h2 9998]
theorem Hc {a:Addr} {v:Value} (h:w.cell? a=some v):∃c T f,w.heap[a.block]? =some (.cells c T f):=by
  unfold World.cell? at h;grind
end
section
variable {P:Program} {K:Kx} {Q:Exit→Act→World→Prop} {ρ:aB} {l r:List au} {o:Oper} {x y:Operand}
theorem AN {w:World} {s:au} {j:Nat} (h:s.oz w) (hj:j<s.cs.length):(∃c T f,w.heap[s.b]? =some (.cells c T f))∧w.frozen? ⟨s.b,s.o+j,none⟩=false:=by
  have h1:=h.1 j _ (List.getElem?_eq_getElem hj);exact⟨Hc h1,h.2.1 j hj⟩
theorem Hd {ms:Array (String × TypeId)} {b q c u tp te ty bY d i j m n:Nat} {s t:au} (ho:o.op=.binOp .eql ty x y bY) (hx:ev ρ x=some (.iface tp (.pointer (some ⟨b,q,none⟩)))) (hy:ev ρ y=some (.iface tp (.pointer (some ⟨c,u,none⟩)))) (hu:P.underlying ty=some (.interface ms)) (hp:P.underlying tp=some (.pointer te)) (hc:(P.info? tp).map (·.comparable)=some true) (hz:(P.info? te).map (fun z=>Nat.blt 0 z.size)=some true)
    (hi:nthS i r=some s) (hs:s.b=b∧s.o+m=q∧m<s.cs.length) (hj:nthS j r=some t) (ht:t.b=c∧n<t.cs.length) (hd:o.dst=some d) (hn:Nat.blt d K.n=true):
    kC P K ρ l r o (fun ρ' l'=>∃z:Bool,ρ'=(d,.bool z)::ρ∧l'=l):=by
  obtain⟨i1,hi1,LC⟩:=Option.map_eq_some_iff.1 hc;obtain⟨j1,F8,CW⟩:=Option.map_eq_some_iff.1 hz;have vL:j1.size≠0:=by simp[Nat.blt] at CW;omega
  intro a w ha nx Q mf;have h1:=AN (ha.st.hr s (dq _ _ _ hi)) hs.2.2;have h2:=AN (ha.st.hr t (dq _ _ _ hj)) ht.2;rw[hs.1,hs.2.1] at h1;rw[ht.1] at h2;obtain⟨⟨c1,T1,f1,e1⟩,g1⟩:=h1;obtain⟨⟨c2,T2,f2,e2⟩,g2⟩:=h2;obtain⟨z,w',hr,hw⟩:=B7 (P:=P) (w:=w) (a:=⟨b,q,none⟩) (b:=⟨c,u,none⟩) e1 e2 g1;have hg:(eqGuard .eql ty x y (.iface tp (.pointer (some ⟨b,q,none⟩))) (.iface tp (.pointer (some ⟨c,u,none⟩)))).run P w=.ok () w:=by
    unfold eqGuard;simp
  have hq:=PY hu hp hi1 LC F8 vL hr;have e:(execOp a.eval o).run P w=.ok (.value (.bool z)) w':=by
    simp only[execOp,ho,bf ha.fr hx,bf ha.fr hy,Sem.run_bind,hg,hq,Result.andThen_ok,Sem.run_pure]
  unfold Oper.wp;rw[e];simp only[Oper.upon,hd];refine mf _ _ ⟨_,_,⟨z,rfl,rfl⟩,?_⟩;rcases hw with rfl|rfl
  · exact ha.put hn _
  · exact ha.drew.put hn _
end
theorem aE.part {P:Program} {f:FuncId} {args:List Value} {l r:List au} {dz:Value→List au→Prop} {s t:au} (jO:∀w:World,s.oz w→t.oz w) (mr:∀b j:Nat,t.has b j→s.has b j) (h:aE P f args l (t::r) dz):aE P f args l (s::r) dz:=by
  refine⟨h.can,fun w ie=>?_⟩;have ach:St l (t::r) w:=⟨ie.hl,fun x hx=>by
    rcases List.mem_cons.1 hx with h'|h'
    · subst h';exact jO w (ie.hr _ List.mem_cons_self)
    · exact ie.hr x (List.mem_cons_of_mem _ h'),ie.pw,fun x hx y hy=>by
    rcases List.mem_cons.1 hy with h'|h'
    · subst h';exact fun b' j h1 h2=>ie.lr x hx _ List.mem_cons_self b' j h1 (mr b' j h2)
    · exact ie.lr x hx y (List.mem_cons_of_mem _ h')⟩
  refine(h.run w ach).mono fun e w' ⟨v,l',h1,h2,h3,h4,h5⟩=>⟨v,l',h1,h2,h3,⟨h4.hl,?_,h4.pw,?_⟩,h5⟩
  · intro x hx;exact(ie.hr x hx).iG h3 fun t ht=>ie.lr t ht x hx
  · intro x hx y hy;intro b' j h6 h7;rcases h5 x hx b' j h6 with ⟨u,hu,ZZ⟩|wR
    · exact ie.lr u hu y hy b' j ZZ h7
    · have:=(ie.hr y hy).lt h7;omega
theorem aE.rd {P:Program} {f:FuncId} {args:List Value} {l r:List au} {dz:Value→List au→Prop} {q:Option Addr} {n j:Nat} {row:List Value} {s:au} (hR:Rd q n 1 row s j) (h0:0<n) (h:aE P f args l (⟨s.b,s.o+j,row,none⟩::r) dz):aE P f args l (s::r) dz:=by
  have hl:=hR.len;have hle:j+row.length≤s.cs.length:=by
    have h1:=congrArg List.length hR.cs;grind
  refine aE.part (t:=⟨s.b,s.o+j,row,none⟩) (fun w hw=>⟨fun i v hi=>?_,fun i hi=>?_,fun x hx=>by cases hx⟩) (fun b i h1=>⟨h1.1,?_,?_⟩) h
  · have eV:i<row.length:=(List.getElem?_eq_some_iff.1 hi).1;have:=hw.1 (j+i) v (by rw[hR.get eV];exact hi);grind
  · show w.frozen? ⟨s.b,s.o+j+i,none⟩=false;have hi':i<row.length:=hi;rw[Nat.add_assoc];exact hw.2.1 (j+i) Om
  · have h2:s.o+j≤i:=h1.2.1;omega
  · have h2:i<s.o+j+row.length:=h1.2.2;omega
theorem He {Y:List (List Nat)} {i:Nat} (h:i<Y.length):(Y.drop i).flatten=Y.getD i []++(Y.drop (i+1)).flatten:=by
  rw[List.drop_eq_getElem_cons h,List.flatten_cons];simp[List.getD_eq_getElem?_getD,List.getElem?_eq_getElem h]
theorem tW {Y:List (List Nat)} {i:Nat} (h:i<Y.length):((Y.drop i).flatten).length=(Y.getD i []).length+((Y.drop (i+1)).flatten).length:=by
  rw[He h,List.length_append]
theorem V4.ten {ls xs:List Nat} {sg:Nat} {Y:List (List Nat)} (h:V4 ls xs sg 4 Y):4≤Y.flatten.length:=by
  have hL:=h.len;have g:∀j,j<4→1≤(Y.getD j []).length:=fun j hj=>by rw[(h.get j hj).1.len];omega
  have e:Y.flatten=(Y.drop 0).flatten:=rfl;have h0:((Y.drop 0).flatten).length=(Y.getD 0 []).length+((Y.drop 1).flatten).length:=tW Om;have h1:((Y.drop 1).flatten).length=(Y.getD 1 []).length+((Y.drop 2).flatten).length:=tW Om;have h2:((Y.drop 2).flatten).length=(Y.getD 2 []).length+((Y.drop 3).flatten).length:=tW Om;have h3:((Y.drop 3).flatten).length=(Y.getD 3 []).length+((Y.drop 4).flatten).length:=tW Om;have g0:=g 0 Om;have g1:=g 1 Om;have g2:=g 2 Om;have g3:=g 3 Om;rw[e];omega
theorem Ku {ds text z0 z1 z2 z3:List Nat} {ev pn ob a0 a1 a2 a3:Nat} (h0:aI ds text (ev*0) pn) (h1:aI ds text (ev*1) pn) (h2:aI ds text (ev*2) pn) (h3:aI ds text (ev*3) pn) (x0:Row z0 text a0 ob∧z0.length=ob) (x1:Row z1 text a1 ob∧z1.length=ob) (x2:Row z2 text a2 ob∧z2.length=ob) (x3:Row z3 text a3 ob∧z3.length=ob) (e:a0=pn∧a1=pn+ev∧a2=pn+ev*2∧a3=pn+ev*3∧pn+ev*3+ob≤text.length) (hd:ds.length=text.length):∃d0 d1 d2 d3,d0=cQ ds pn z0∧d1=cQ d0 (pn+ev) z1∧d2=cQ d1 (pn+ev*2) z2∧d3=cQ d2 (pn+ev*3) z3∧d0.length=text.length∧d1.length=text.length∧d2.length=text.length∧d3.length=text.length∧aI d3 text (ev*0) (pn+ob)∧aI d3 text (ev*1) (pn+ob)∧aI d3 text (ev*2) (pn+ob)∧aI d3 text (ev*3) (pn+ob):=by
  have l0:=(aV (xs:=ds) (j:=pn) (ys:=z0) Om).trans hd;have l1:=(aV (xs:=cQ ds pn z0) (j:=pn+ev) (ys:=z1) Om).trans l0;have l2:=(aV (xs:=cQ (cQ ds pn z0) (pn+ev) z1) (j:=pn+ev*2) (ys:=z2) Om).trans l1;have l3:=(aV (xs:=cQ (cQ (cQ ds pn z0) (pn+ev) z1) (pn+ev*2) z2) (j:=pn+ev*3) (ys:=z3) Om).trans l2;have k:∀{d z:List Nat} {a n j a':Nat},aI d text a n→Row z text a' ob∧z.length=ob→j+ob≤d.length→a'=j→aI (cQ d j z) text a n:=fun g x h e=>g.iG x.1 ⟨h,x.2,e⟩
  have m:∀{d z:List Nat} {a n j a':Nat},aI d text a n→Row z text a' ob∧z.length=ob→j+ob≤d.length→a'=j→a+n=j→aI (cQ d j z) text a (n+ob):=fun g x h e e'=>g.more x.1 ⟨h,x.2,e,e'⟩
  refine⟨_,_,_,_,rfl,rfl,rfl,rfl,l0,l1,l2,l3,?_,?_,?_,?_⟩
  · exact k (k (k (m h0 x0 Om Om Om) x1 Om Om) x2 Om Om) x3 Om Om
  · exact k (k (m (k h1 x0 Om Om) x1 Om Om Om) x2 Om Om) x3 Om Om
  · exact k (m (k (k h2 x0 Om Om) x1 Om Om) x2 Om Om Om) x3 Om Om
  · exact m (k (k (k h3 x0 Om Om) x1 Om Om) x2 Om Om) x3 Om Om Om
theorem LQ {xs:List Nat} {q j:Nat}:vQ xs q j=MN xs q j:=by
  unfold vQ MN;have e:(j+1)*q=j*q+q:=by rw[Nat.add_mul,Nat.one_mul]
  by_cases h:(j+1)*q≤xs.length
  · rw[show min ((j+1)*q) xs.length-j*q=q by omega]
  · rw[List.take_of_length_le Oz,List.take_of_length_le Oz]
theorem km.text {ls xs zs:List Nat} (h:km ls xs zs) (he:ib ls) (hl:ls.length=256) (hc:B3 ls xs) (hb:Bytes xs):PO true ls xs zs:=by
  obtain⟨Y,hF,hz9⟩:=h;refine⟨Y,hF.len,fun j hj=>?_,?_⟩
  · obtain⟨h1,h2⟩:=hF.get j hj;rw[LQ];exact⟨he,fun c uE=>⟨by rw[hl];exact hb c (tV uE),hc.len c (tV uE)⟩,h1.bytes,⟨h1.len,h2⟩,h1.val⟩
  · rw[hz9];unfold hz;rw[hF.len];simp
theorem km.four {ls xs zs:List Nat} {n:Nat} (h:km ls xs zs) (he:ib ls) (hl:ls.length=256) (hc:B3 ls xs) (hb:Bytes xs) (hn:xs.length=n) (xO:10≤n):∃bQ cc cl cW,GM zs xs ls ((n+3)/4) (n-3*((n+3)/4)) bQ cc cl cW∧zs.length≤1048576:=by
  subst hn;exact(h.text he hl hc hb).four Om
end Go.Proofs.YtekcchgffhphbaaGreatDoor
