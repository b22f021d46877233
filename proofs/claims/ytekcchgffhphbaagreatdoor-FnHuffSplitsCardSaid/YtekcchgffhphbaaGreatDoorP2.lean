/- The walk's own engine and plain laws, part 2. -/
import Derived.Test.YtekcchgffhphbaaGreatDoorP1
import Derived.Lib.AppendZerosOnto
import Derived.LaidEql
set_option linter.unusedVariables false
set_option linter.unusedSimpArgs false
namespace Go.Proofs.YtekcchgffhphbaaGreatDoor
def z3:Nat→List Nat
  |0=>[]
  |t+1=>z3 t++fU 3 2
theorem Ha:∀t,fU 3 2++z3 t=z3 t++fU 3 2
  |0=>by simp[z3]
  |t+1=>by rw[z3, ←List.append_assoc,Ha t]
theorem Wg {r:Nat} (hr:r<3):cN r=fU r 2:=by
  match r,hr with
  |0,_=>rfl
  |1,_=>rfl
  |2,_=>rfl
theorem Af {r:Nat} (hr:r<3):∀t,cN (3*t+r)=z3 t++fU r 2
  |0=>by rw[Nat.mul_zero,Nat.zero_add,Wg hr];rfl
  |t+1=>by
    rw[show 3*(t+1)+r=(3*t+r)+3 by omega];show fU 3 2++cN (3*t+r)=_;rw[Af hr t, ←List.append_assoc,Ha];rfl
theorem nS.Wh {P H:List Nat} {C nb x b:Nat} (h:nS P C nb H.length (lowV H)) (hx:x<2^b) (hb:nb+b≤63):nS P (C+x*2^nb) (nb+b) (H++fU x b).length (lowV (H++fU x b)):=by
  have h1:=h.add hx hb;rw[ib,List.length_append,bY,gO,Nat.mod_eq_of_lt hx,Nat.mul_comm (2^H.length)];exact h1
theorem Ag {O:List Nat} {op C:Nat} (ho:op+1<O.length):((O.set op (C%256)).set (op+1) (C/2^8%256)).take (op+2)=O.take op++bE C 2:=by
  rw[←Bq];apply List.ext_getElem?;intro i;rw[List.getElem?_take];rcases Nat.lt_or_ge i op with hi|hi
  · rw[if_pos Om,List.getElem?_append_left (by rw[List.length_take];omega),List.getElem?_take,if_pos hi,List.getElem?_set_ne Om,List.getElem?_set_ne Om]
  · rw[List.getElem?_append_right (by rw[List.length_take];omega),List.length_take,Nat.min_eq_left Om];rcases Nat.eq_or_lt_of_le hi with he|he
    · subst he;rw[if_pos Om,List.getElem?_set_ne Om,List.getElem?_set_self Om];simp
    · rcases Nat.eq_or_lt_of_le he with he2|he2
      · rw[show i=op+1 by omega,if_pos Om,List.getElem?_set_self (by rw[List.length_set];omega),show op+1-op=1 by omega];rfl
      · rw[if_neg Om,List.getElem?_eq_none Oz]
theorem nS.adZ {O:List Nat} {op C nb n V:Nat} (h:nS (O.take op) C nb n V) (hb:16≤nb) (ho:op+1<O.length):nS (((O.set op (C%256)).set (op+1) (C/2^8%256)).take (op+2)) (C/2^16) (nb-16) n V:=by
  rw[Ag ho];exact h.flush (k:=2) hb
def Fc (L:Nat) (E:List Nat):List Nat:=fU (L-5) 4++E
structure WC (L:Nat) (P:List Int) (O:List Nat) (pz:Bool) (rem i bs bc op:Nat) (E:List Nat):Prop where
  wr:nS (O.take op) bs bc (Fc L E).length (lowV (Fc L E))
  wz:CY (2^L) P pz (rem-1) i E
  bd:Bc L pz rem i (4+E.length)
  r1:1≤rem
  r2:rem+eF (a8 P) i=2^L+1
  pz1:pz=true→2≤rem
  ol:op≤O.length
  il:i≤P.length
structure WM (L:Nat) (P:List Int) (O:List Nat) (rem i bs bc op:Nat) (E:List Nat):Prop where
  wr:nS (O.take op) bs bc (Fc L E).length (lowV (Fc L E))
  wz:CY (2^L) P false (rem-1) i E
  bd:4+E.length+(if 2^L≤rem then 1 else 0)≤5+(L+1)*i+1
  bz:P.getD i 0=0→Bc L false rem i (4+E.length)
  r1:2≤rem
  r2:rem+eF (a8 P) i=2^L+1
  ol:op≤O.length
  il:i<P.length
structure WR (L:Nat) (P:List Int) (O:List Nat) (rem i t bs bc op:Nat) (E:List Nat):Prop where
  wr:nS (O.take op) bs bc (Fc L (E++z3 t)).length (lowV (Fc L (E++z3 t)))
  wz:CY (2^L) P true (rem-1) i E
  bd:Bc L true rem i (4+E.length)
  r1:2≤rem
  r2:rem+eF (a8 P) i=2^L+1
  ol:op≤O.length
theorem Hb (L:Nat) (E:List Nat):(Fc L E).length=4+E.length:=by unfold Fc;rw[List.length_append,bY]
theorem Bs (L:Nat) (E F:List Nat):Fc L (E++F)=Fc L E++F:=by unfold Fc;rw[List.append_assoc]
section
variable {L rem i j bs bc op t k:Nat} {P:List Int} {O E:List Nat} {pz:Bool}
theorem WC.begin (hL:L=5∨L=6) (hr:rem=2^L+1):WC L P O false rem 0 (L-5) 4 0 []:=by
  subst hr;have hp:=Nat.two_pow_pos L;refine⟨?_,by rw[Nat.add_sub_cancel];exact CY.begin _ _,?_,Om,rfl,(fun h=>by cases h),Nat.zero_le _,Nat.zero_le _⟩
  · rw[show Fc L []=fU (L-5) 4 by simp[Fc],bY,gO,Nat.mod_eq_of_lt Om];exact⟨(fun x hx=>by simp at hx),Om,Od,Oi,by simp[tailV]⟩
  · unfold Bc;rw[if_pos Om];simp
theorem Wi (h:nS (O.take op) bs bc (Fc L E).length (lowV (Fc L E))) (ho:op≤O.length):8*op+bc=4+E.length:=by
  have:=h.len;rw[Hb,List.length_take,Nat.min_eq_left ho] at this;exact this
theorem WC.room (h:WC L P O pz rem i bs bc op E) (hL:L=5∨L=6):(L=5∧8*op+bc≤5+6*i)∨(L=6∧8*op+bc≤5+7*i):=by
  have h1:=Wi h.wr h.ol;have h2:=h.bd;unfold Bc at h2;rcases hL with rfl|rfl
  · left;refine⟨rfl,?_⟩;omega
  · right;refine⟨rfl,?_⟩;omega
theorem WM.room (h:WM L P O rem i bs bc op E) (hL:L=5∨L=6):(L=5∧8*op+bc≤6+6*i)∨(L=6∧8*op+bc≤6+7*i):=by
  have h1:=Wi h.wr h.ol;have h2:=h.bd;rcases hL with rfl|rfl
  · left;refine⟨rfl,?_⟩;omega
  · right;refine⟨rfl,?_⟩;omega
theorem WC.lt (h:WC L P O pz rem i bs bc op E):bs<2^bc:=h.wr.lt
theorem WC.ilt (h:WC L P O pz rem i bs bc op E) (hs:(a8 P).sum=2^L) (hr:1<rem):i<P.length:=by
  apply Classical.byContradiction;intro hn;have h2:=h.r2;have:eF (a8 P) i=2^L:=by rw[←hs];unfold eF;rw[List.take_of_length_le (by rw[iz];omega)]
  omega
theorem WC.sx (h:WC L P O pz rem i bs bc op E) (hp:pz=false) (hs:(a8 P).sum=2^L) (hr:1<rem):WM L P O rem i bs bc op E:=by
  subst hp;exact⟨h.wr,h.wz,h.bd.sx,fun _=>h.bd,hr,h.r2,h.ol,h.ilt hs hr⟩
theorem WC.ad0 (h:WC L P O pz rem i bs bc op E) (hp:pz=true):WR L P O rem i 0 bs bc op E:=by
  subst hp;exact⟨by simpa [z3] using h.wr,h.wz,h.bd,h.pz1 rfl,h.r2,h.ol⟩
theorem vx {ns:List Nat} {i:Nat}:∀z,(∀j,j<z→ns.getD (i+j) 0=0)→eF ns (i+z)=eF ns i
  |0,_=>rfl
  |z+1,h=>by rw[←Nat.add_assoc,eg,vx z (fun j hj=>h j Om),h z Om,Nat.add_zero]
theorem vy {P:List Int} {i:Nat}:(a8 P).getD i 0=0↔P.getD i 0=0:=by rw[zf];omega
theorem WR.more (h:WR L P O rem i t bs bc op E) (hs:(a8 P).sum=2^L) {z:Nat} (hz:∀j,j<z→P.getD (i+j) 0=0):i+z<P.length:=by
  have h1:=vx (ns:=a8 P) (i:=i) z fun j hj=>vy.2 (hz j hj)
  have h2:=h.r2;have h3:=h.r1;apply Classical.byContradiction;intro hn;have:eF (a8 P) (i+z)=2^L:=by rw[←hs];unfold eF;rw[List.take_of_length_le (by rw[iz];omega)]
  omega
theorem WR.three (h:WR L P O rem i t bs bc op E) (hb:bc≤30):WR L P O rem i (t+1) (bs+3*2^bc) (bc+2) op E:=by
  refine⟨?_,h.wz,h.bd,h.r1,h.r2,h.ol⟩;have:=h.wr.Wh (x:=3) (b:=2) Od Om;rw[show E++z3 (t+1)=(E++z3 t)++fU 3 2 by rw[z3,List.append_assoc],Bs];exact this
theorem WR.fin (h:WR L P O rem i t bs bc op E) (hb:bc≤30) {r z:Nat} (hr:r<3) (hz:z=3*t+r) (h0:∀j,j<z→P.getD (i+j) 0=0) (hc:P.getD (i+z) 0≠0) (hs:(a8 P).sum=2^L):WM L P O rem (i+z) (bs+r*2^bc) (bc+2) op (E++cN z):=by
  have hl:=h.more hs h0;have e:cN z=z3 t++fU r 2:=by rw[hz];exact Af hr t
  refine⟨?_,h.wz.run hl h0 hc,?_,fun h9=>absurd h9 hc,h.r1,?_,h.ol,hl⟩
  · have:=h.wr.Wh (x:=r) (b:=2) Om Om;rw[e, ←List.append_assoc,Bs];exact this
  · have:=h.bd.run z;rw[List.length_append];omega
  · rw[vx z fun j hj=>vy.2 (h0 j hj)];exact h.r2
theorem WM.put (h:WM L P O rem i bs bc op E) (hb:16<bc) (ho:op+1<O.length):WM L P ((O.set op (bs%256)).set (op+1) (bs/2^8%256)) rem i (bs/2^16) (bc-16) (op+2) E:=
  ⟨h.wr.adZ Om ho,h.wz,h.bd,h.bz,h.r1,h.r2,Oz,h.il⟩
theorem WC.put (h:WC L P O pz rem i bs bc op E) (hb:16<bc) (ho:op+1<O.length):WC L P ((O.set op (bs%256)).set (op+1) (bs/2^8%256)) pz rem i (bs/2^16) (bc-16) (op+2) E:=
  ⟨h.wr.adZ Om ho,h.wz,h.bd,h.r1,h.r2,h.pz1,Oz,h.il⟩
theorem ad1 {rem v k mx w b:Nat} (h1:2^k≤rem) (h2:rem<2^(k+1)) (hm:mx=2*2^k-1-rem) (hv:v≤rem) (hw:(v<2^k∧w=v)∨(2^k≤v∧w=v+mx)) (hb:(w<mx∧b+1=k+1)∨(mx≤w∧b=k+1)):jQ rem v=fU w b∧w<2^b:=by
  have hp:=Nat.two_pow_pos k;have GJ:av rem=k+1:=lu (by rw[Nat.add_sub_cancel];exact h1) h2 Om;have hz:2^(k+1)=2*2^k:=by rw[Nat.pow_succ,Nat.mul_comm]
  have hk:mx≤2^k:=Om;unfold jQ;rw[GJ,hz,Nat.add_sub_cancel];rcases hw with ⟨ha,rfl⟩|⟨ha,rfl⟩
  · rcases hb with ⟨hc,hb⟩|⟨hc,rfl⟩
    · rw[if_pos Om,show b=k by omega];exact⟨rfl,ha⟩
    · rw[if_neg Om,if_pos ha];exact⟨rfl,Om⟩
  · rcases hb with ⟨hc,hb⟩|⟨hc,rfl⟩
    · omega
    · rw[if_neg Om,if_neg Om,hm];exact⟨rfl,Om⟩
theorem WM.next (h:WM L P O rem i bs bc op E) (hL:L=5∨L=6) (wq: -1≤P.getD i 0) (hs:(a8 P).sum=2^L) {v mx w b rm:Nat} (h1:2^k≤rem) (h2:rem<2^(k+1)) (hv:(v:Int)=P.getD i 0+1) (hm:mx=2*2^k-1-rem) (hw:(v<2^k∧w=v)∨(2^k≤v∧w=v+mx)) (hb:(w<mx∧b+1=k+1)∨(mx≤w∧b=k+1)) (hbc:bc≤30) (hk:k≤6) (hrm:rm=rem-(a8 P).getD i 0):
    ∃E',WC L P O (decide (((w:Nat):Int)=((1:Nat):Int))) rm (i+1) (bs+w*2^bc) (bc+b) op E':=by
  have kQ:=l7 (ns:=a8 P) (s:=i+1);rw[eg,hs,zf] at kQ;rw[zf] at hrm;have Ll:=h.r2;have Ah:=h.r1;have hp:=Nat.two_pow_pos k;obtain⟨e1,e2⟩:=ad1 (v:=v) h1 h2 hm Om hw hb;have hkk:1≤k:=by
    apply Classical.byContradiction;intro hn;have:k=0:=Om;subst this;simp at h2;omega
  have y8:2≤2^k:=Nat.pow_le_pow_right (n:=2) Om hkk;have hw1:w=1↔P.getD i 0=0:=Om;have hwr:=h.wr.Wh e2 Om;rw[←e1, ←Bs] at hwr;refine⟨E++jQ rem v,hwr,?_,?_,Om,by rw[eg,zf];omega,?_,h.ol,h.il⟩
  · by_cases h0:P.getD i 0=0
    · rw[decide_eq_true (by rw[hw1.2 h0]),show rm-1=rem-1 by omega];have:=h.wz.zero h.il h0 Om;rw[show rem-1+1=rem by omega] at this;rw[show v=1 by omega];exact this
    · rw[decide_eq_false (by have:=fun q=>h0 (hw1.1 q);omega),show rm-1=rem-1-(P.getD i 0).natAbs by omega];have:=h.wz.num h.il rfl h0 wq Om;rw[show rem-1+1=rem by omega,show(P.getD i 0+1).toNat=v by omega] at this;exact this
  · rw[List.length_append, ←Nat.add_assoc];by_cases h0:P.getD i 0=0
    · rw[decide_eq_true (by rw[hw1.2 h0]),show v=1 by omega,show rm=rem by omega];exact(h.bz h0).zero hL Om Om
    · rw[decide_eq_false (by have:=fun q=>h0 (hw1.1 q);omega),hrm];exact Bc.num h.bd hL Om Om Om Om Om
  · intro hd;have:=of_decide_eq_true hd;have:=hw1.1 Om;omega
theorem Lm {w5 k:Nat} (h:w5=2^k) (hk:1≤k):w5/2^1=2^(k-1)∧2^(k-1+1)=2^k:=by
  rw[h,Nat.pow_div hk Od,show k-1+1=k by omega];exact⟨rfl,rfl⟩
theorem WC.done (h:WC L P O pz rem i bs bc op E) (hs:(a8 P).sum=2^L) (hr:rem=1) (hb:bc≤16) (ho:op+1<O.length) (lV:P.getD (P.length-1) 0≠0) (hP:1≤P.length) {m:Nat} (hm:m=op+(bc+7)/8):
    ∃E,dj (2^L) P E∧m=(4+E.length+7)/8∧m≤op+2∧Bytes (((O.set op (bs%256)).set (op+1) (bs/2^8%256)).take m)∧tailV (((O.set op (bs%256)).set (op+1) (bs/2^8%256)).take m) 0 m=lowV (fU (L-5) 4++E):=by
  have hlen:=Wi h.wr h.ol;have Ll:=h.r2;have hi:i=P.length:=by
    rcases Nat.lt_trichotomy i P.length with h1|h1|h1
    · have h2:=l7 (ns:=a8 P) (s:=P.length-1+1);have h3:eF (a8 P) i≤eF (a8 P) (P.length-1):=by
        rcases Nat.lt_or_ge i (P.length-1) with h4|h4
        · have:=vp (ns:=a8 P) h4;omega
        · rw[show i=P.length-1 by omega];exact Nat.le_refl _
      rw[eg,hs] at h2;have:(a8 P).getD (P.length-1) 0=0:=Om;exact absurd (vy.1 this) lV
    · exact h1
    · have:=h.il;omega
  have hpz:pz=false:=by
    cases pz with
    |false=>rfl
    |true=>have:=h.pz1 rfl;omega
  obtain⟨a1,a2,a3⟩:=h.wr.align (k:=(bc+7)/8) rfl;rw[Hb] at a2 a3;have Tv:=h.wz;rw[hr] at Tv;have Jc:m=(4+E.length+7)/8:=Om;have e:((O.set op (bs%256)).set (op+1) (bs/2^8%256)).take m=O.take op++bE bs ((bc+7)/8):=by
    have e1:((O.set op (bs%256)).set (op+1) (bs/2^8%256)).take (op+2)=O.take op++bE bs 2:=Ag ho;have e2:((O.set op (bs%256)).set (op+1) (bs/2^8%256)).take m=(((O.set op (bs%256)).set (op+1) (bs/2^8%256)).take (op+2)).take m:=by rw[List.take_take,Nat.min_eq_left Om]
    rw[e2,e1,List.take_append,List.take_of_length_le (by rw[List.length_take];omega),List.length_take,Nat.min_eq_left h.ol,show m-op=(bc+7)/8 by omega];congr 1;unfold bE;rw[←List.map_take,List.take_range,Nat.min_eq_left Om]
  refine⟨E,Tv.done hpz hi,Jc,Om,by rw[e];exact a1,?_⟩;rw[e,Jc];exact a3
theorem Io {P:List Int} {i x:Nat} (h:∀q,q<x-i→P.getD (i+q) 0=0) (h0:P.getD x 0=0) (hi:i≤x):∀q,q<x+1-i→P.getD (i+q) 0=0:=fun q hq=>by
  rcases Nat.lt_or_ge q (x-i) with h1|h1
  · exact h q h1
  · rw[show i+q=x by omega];exact h0
theorem RI {b:Nat} (h:b≤24):2^b≤16777216:=Nat.pow_le_pow_right (n:=2) Om h
theorem Ln {w b:Nat} (hw:w≤255) (h:b≤24):w*2^b%4294967296=w*2^b:=by
  have:=RI h;have:=Nat.mul_le_mul hw this;exact Nat.mod_eq_of_lt Om
theorem ad2 {r k:Nat} (h1:1≤r) (h:r<2^k):1≤k:=by
  apply Classical.byContradiction;intro hn;have:k=0:=Om;subst this;simp at h;omega
theorem WM.ns (h:WM L P O rem i bs bc op E) (hs:(a8 P).sum=2^L):(a8 P).getD i 0+1≤rem:=by
  have h2:=l7 (ns:=a8 P) (s:=i+1);have h3:=h.r2;rw[eg,hs] at h2;omega
theorem Lo {n mh:Nat} (h2:2≤n) (hn:n≤12) (hi:i≤n) (ho:op%2=0) (hb:1≤bc) (hr:(L=5∧8*op+bc≤5+6*i)∨(L=6∧8*op+bc≤5+7*i)) (hm:(L=5∧mh=(n*5+6)/8+3)∨(L=6∧mh=(n*6+6)/8+3)):op+1<mh:=by
  have:n=2∨n=3∨n=4∨n=5∨n=6∨n=7∨n=8∨n=9∨n=10∨n=11∨n=12:=Om;rcases this with rfl|rfl|rfl|rfl|rfl|rfl|rfl|rfl|rfl|rfl|rfl<;>omega
theorem Wj {w b:Nat} (h:w≤255):w*2^b≤255*2^b:=Nat.mul_le_mul_right _ h
end
theorem mH {W:Nat→Nat} {i:Nat}:∀{n:Nat},i≤n→sm W i≤sm W n
  |0,h=>by rw[show i=0 by omega];exact Nat.le_refl _
  |n+1,h=>by
    rcases Nat.lt_or_eq_of_le h with h1|h1
    · have:=mH (W:=W) (show i≤n by omega);simp only[sm];omega
    · rw[h1];exact Nat.le_refl _
theorem qu {W:Nat→Nat} {i n:Nat} (h:i<n):W i≤sm W n:=by
  have:=mH (W:=W) (show i+1≤n by omega);simp only[sm] at this;omega
def pH (CN:List Nat) (j:Nat):Nat:=CN.getD j 0
section
variable {CN:List Nat} {R:List Int} {S i n d T lo L Z:Nat}
structure Bt (CN:List Nat) (R:List Int) (S i d T lo:Nat):Prop where
  nj:E7 CN R i
  hd:d=rG Jd R i
  ht:T+sm (pH CN) i=S+rG (y4 CN) R i
  ha:sm (pH CN) i≤rG (y4 CN) R i+d*lo
theorem Bt.zero:Bt CN R S 0 0 S lo:=⟨E7.zero _ _,rfl,rfl,Nat.zero_le _⟩
theorem Bt.none (h:Bt CN R S i d T lo) (hi:i<R.length) (h0:CN.getD i 0=0):Bt CN (R.set i 0) S (i+1) d T lo:=by
  refine⟨h.nj.step hi (.inl ⟨h0,rfl⟩),?_,?_,?_⟩
  · rw[fv hi, ←h.hd];rfl
  · rw[fv hi];have:=h.ht;simp only[sm,pH,y4] at this ⊢;rw[h0];simp;omega
  · rw[fv hi];have:=h.ha;simp only[sm,pH,y4] at this ⊢;rw[h0];simp;omega
theorem Bt.rest (h:Bt CN R S i d T lo) (hi:i<R.length) (h0:CN.getD i 0≠0):Bt CN (R.set i (-2)) S (i+1) d T lo:=by
  refine⟨h.nj.step hi (.inr ⟨h0,.inr (.inr rfl)⟩),?_,?_,?_⟩
  · rw[fv hi, ←h.hd];rfl
  · rw[fv hi];have:=h.ht;simp only[sm,pH,y4] at this ⊢;simp;omega
  · rw[fv hi];have:=h.ha;simp only[sm,pH,y4] at this ⊢;simp;omega
theorem Bt.room (h:Bt CN R S i d T lo) (hS:sm (pH CN) n=S) (hi:i<n):CN.getD i 0≤T∧CN.getD i 0≤S:=by
  have h1:=mH (W:=pH CN) (show i+1≤n by omega);have h2:=h.ht;simp only[sm] at h1;have h3:pH CN i=CN.getD i 0:=rfl;omega
theorem Bt.low (h:Bt CN R S i d T lo) (hi:i<R.length) (h0:CN.getD i 0≠0) (hl:CN.getD i 0≤lo) {v:Int} (hv:v= -1∨v=1) (hT:CN.getD i 0≤T):Bt CN (R.set i v) S (i+1) (d+1) (T-CN.getD i 0) lo:=by
  have uY:v≠ -2:=Om;refine⟨h.nj.step hi (.inr ⟨h0,Om⟩),?_,?_,?_⟩
  · rw[fv hi, ←h.hd];simp only[Jd,if_neg uY];omega
  · rw[fv hi];have:=h.ht;simp only[sm,pH,y4,if_neg uY] at this ⊢;omega
  · rw[fv hi,Nat.succ_mul];have:=h.ha;simp only[sm,pH,y4,if_neg uY] at this ⊢;omega
structure PX (CN:List Nat) (R:List Int) (n d T:Nat):Prop where
  nj:E7 CN R n
  hd:d=rG Jd R n
  ht:T=rG (y4 CN) R n
theorem Bt.done (h:Bt CN R S n d T lo) (hS:sm (pH CN) n=S):PX CN R n d T:=⟨h.nj,h.hd,by have:=h.ht;omega⟩
theorem Bt.pos (h:Bt CN R S n d T lo) (hS:sm (pH CN) n=S) (hL:L=5∨L=6) (h0:0<S) (hn:n≤13) (Ad:lo=S*3/2^(L+1)):0<T:=by
  have h1:=h.nj.adS;have h2:=h.ht;have h3:=h.ha;have h4:=h.hd;have:=Ry (S:=S) (d:=d) (A:=S-T) (lo:=lo) (L:=L) hL h0 Om (by rw[Ad,Nat.mul_comm]) Om;omega
theorem PX.le (h:PX CN R n d T):d≤n:=by rw[h.hd];exact h.nj.adS
theorem PX.room (h:PX CN R n d T) (hi:i<n) (hv:R.getD i 0= -2):CN.getD i 0≤T:=by
  have:=qu (W:=fun j=>y4 CN j (R.getD j 0)) hi;rw[h.ht];simp only[y4,hv,if_true] at this;exact this
theorem PX.put (h:PX CN R n d T) (hi:i<n) (hl:i<R.length) (hv:R.getD i 0= -2):PX CN (R.set i 1) n (d+1) (T-CN.getD i 0):=by
  have e1:=Bl (F:=Jd) (v:=1) hi hl;have e2:=Bl (F:=y4 CN) (v:=1) hi hl;rw[hv] at e1 e2;refine⟨h.nj.put hl hi hv,?_,?_⟩
  · rw[h.hd];simp[Jd] at e1;omega
  · rw[h.ht];simp[y4] at e2;simp[y4];omega
theorem Wk {S L:Nat}:S/2^L≤S*3/2^(L+1):=by
  have hp:=Nat.two_pow_pos L;rw[Nat.le_div_iff_mul_le (Nat.two_pow_pos _),Nat.pow_succ, ←Nat.mul_assoc];have:=Nat.div_mul_le_self S (2^L);omega
theorem E8.small {N0 NR:List Int} {v sx rs tmp d iy:Nat} (h:E8 CN N0 NR n i v sx rs tmp) (hL:L=5∨L=6) (hv:v=62-L) (Il:sx=2^(v-1)-1) (ht:iy=rG (y4 CN) N0 n) (hd:d≤2^L) (K6:rs=(2^v*(2^L-d)+sx)/iy) (hi:i<n) (he:NR.getD i 0= -2):tmp+CN.getD i 0*rs≤9223372036854775807:=by
  have e:=h.rest i (Nat.le_refl _);rw[he] at e;have h1:rG (y4 CN) N0 (i+1)≤iy:=by rw[ht];exact mH (W:=fun j=>y4 CN j (N0.getD j 0)) Om
  rw[oe, ←e] at h1;simp only[y4,if_true] at h1;have h2:=Nat.mul_le_mul_right rs h1;have h3:iy*rs≤2^v*(2^L-d)+sx:=by rw[K6];exact Nat.mul_div_le _ _
  have h4:=h.at_;rw[Nat.add_mul] at h2;have h5:2^v*(2^L-d)≤2^v*2^L:=Nat.mul_le_mul_left _ Om;rw[←Nat.pow_add,show v+L=62 by omega] at h5;have h6:2^(v-1)≤2^60:=Nat.pow_le_pow_right Om Om;omega
theorem Ai {x L:Nat} (hx:x≤9223372036854775807) (hL:L=5∨L=6):x/2^(62-L)≤128:=by
  rcases hL with rfl|rfl
  · show x/144115188075855872≤128;omega
  · show x/72057594037927936≤128;omega
structure Dd (L Z:Nat) (CN:List Nat) (R:List Int) (S i:Nat) (still:Int) (lp lg:Nat):Prop where
  nm:K7 CN R i
  lg:vu R i lp lg
  st:still=(Z:Int)-(rG fA R i:Nat)
  sml:rG fA R i≤65*i
  big:∀j,j<i→S/2^L<CN.getD j 0→1≤R.getD j 0
theorem Dd.zero:Dd L Z CN R S 0 (Z:Int) 0 0:=⟨K7.zero _ _,vu.zero _ _,by simp[rG,sm],by simp[rG,sm],fun j h=>Om⟩
theorem yh {w5:Nat} {v:Int} (h:∀j,j<i→w5<CN.getD j 0→1≤R.getD j 0) (hi:i<R.length) (hv:w5<CN.getD i 0→1≤v):∀j,j<i+1→w5<CN.getD j 0→1≤(R.set i v).getD j 0:=fun j hj hb=>by
  rw[eh hi];split
  · rename_i e;subst e;exact hv hb
  · exact h j Om hb
theorem Dd.none {still:Int} {lp lg:Nat} (h:Dd L Z CN R S i still lp lg) (hi:i<R.length) (h0:CN.getD i 0=0):Dd L Z CN (R.set i 0) S (i+1) still lp lg:=by
  refine⟨h.nm.step hi Od Om,h.lg.low hi Od,?_,?_,yh h.big hi (fun h9=>by rw[h0] at h9;exact absurd h9 (Nat.not_lt_zero _))⟩
  · rw[fv hi];have:=h.st;simp only[fA];simp;omega
  · rw[fv hi];have:=h.sml;simp only[fA];simp;omega
theorem Dd.low {still:Int} {lp lg:Nat} (h:Dd L Z CN R S i still lp lg) (hi:i<R.length) (h0:CN.getD i 0≠0) (hl:CN.getD i 0≤S/2^L):Dd L Z CN (R.set i (-1)) S (i+1) (still-1) lp lg:=by
  refine⟨h.nm.step hi Od Om,h.lg.low hi Od,?_,?_,yh h.big hi (fun h9=>Om)⟩
  · rw[fv hi];have:=h.st;simp only[fA];simp;omega
  · rw[fv hi];have:=h.sml;simp only[fA];simp;omega
theorem Dd.put {still:Int} {lp lg pb RJ RK:Nat} (h:Dd L Z CN R S i still lp lg) (hi:i<R.length) (h0:CN.getD i 0≠0) (hp:1≤pb∧pb≤65) (hl:(lp<pb∧RJ=pb∧RK=i)∨(pb≤lp∧RJ=lp∧RK=lg)):Dd L Z CN (R.set i (pb:Int)) S (i+1) (still-(pb:Int)) RJ RK:=by
  refine⟨h.nm.step hi Om (by constructor<;>intro h9<;>omega),?_,?_,?_,yh h.big hi (fun _=>Om)⟩
  · rcases hl with ⟨_,rfl,rfl⟩|⟨h2,rfl,rfl⟩
    · exact vu.new hi hp.1
    · exact h.lg.old hi hp.1 h2
  · rw[fv hi];have:=h.st;simp only[fA];simp;omega
  · rw[fv hi];have:=h.sml;simp only[fA];simp;omega
theorem Dd.top {still:Int} {lp lg:Nat} (h:Dd L Z CN R S n still lp lg) (hS:sm (pH CN) n=S) (h0:0<S) (hn:n<2^L):1≤lp∧lg<n∧R.getD lg 0=(lp:Int):=by
  rcases h.lg with ⟨h1,h2⟩|h1
  · obtain⟨j,hj,hb⟩:=C4 hS h0 hn;have:=h.big j hj hb;have:=h2 j hj;omega
  · exact h1
theorem Dd.fin (hZ:Z=2^L) {still v:Int} {lp lg:Nat} (h:Dd L Z CN R S n still lp lg) (h1:1≤lp∧lg<n∧R.getD lg 0=(lp:Int)) (hl:n≤R.length) (hv:v=R.getD lg 0+still) (hb:¬((lp/2^1:Nat):Int)≤ -still):vV L CN (R.set lg v) n:=by
  have e:=Bl (F:=fA) (v:=v) h1.2.1 (show lg<R.length by omega);have hs:=h.st;have h2:=h1.2.2;simp only[fA] at e;refine⟨h.nm.put Om Om Om,?_⟩;omega
end
def pN:List Nat:=[0,473195,504333,520860,550000,700000,750000,830000]
theorem Wl (i:Nat):pN.getD i 0≤830000:=by
  rcases Nat.lt_or_ge i 8 with h|h
  · have:∀i,i<8→pN.getD i 0≤830000:=Od;exact this i h
  · rw[List.getD_eq_getElem?_getD,List.getElem?_eq_none (by simpa [pN] using h)];decide
theorem vX {L x:Nat} (hL:L=5∨L=6) (hx:x≤830000):1*2^(62-L-20)*x≤1152921504606846976∧1*2^(62-L-20)≤137438953472:=by
  rcases hL with rfl|rfl
  · show 1*137438953472*x≤_∧_;omega
  · show 1*68719476736*x≤_∧_;omega
theorem nu {xs:List Nat} (h:Bytes xs):∀n,tailV xs 0 n<2^(8*n)
  |0=>by simp[tailV]
  |n+1=>by
    have ih:=nu h n;have hb:=h.at_ n;simp only[tailV,Nat.zero_add];have:xs.getD n 0*2^(8*n)≤255*2^(8*n):=Nat.mul_le_mul_right _ Om;rw[Nat.mul_add,Nat.pow_add];omega
theorem Aj {xs ys:List Nat} (hx:Bytes xs) (hy:Bytes ys):∀n,tailV xs 0 n=tailV ys 0 n→∀i,i<n→xs.getD i 0=ys.getD i 0
  |0,_,i,h=>by omega
  |n+1,e,i,h=>by
    have h1:=nu hx n;have h2:=nu hy n;simp only[tailV,Nat.zero_add] at e;have hp:=Nat.two_pow_pos (8*n);have e1:xs.getD n 0=ys.getD n 0:=by
      have:=congrArg (fun z=>z/2^(8*n)) e;simp only[Nat.add_mul_div_right _ _ hp,Nat.div_eq_of_lt h1,Nat.div_eq_of_lt h2] at this;omega
    have e2:tailV xs 0 n=tailV ys 0 n:=by rw[e1] at e;omega
    rcases Nat.lt_or_eq_of_le (Nat.le_of_lt_succ h) with h3|h3
    · exact Aj hx hy n e2 i h3
    · rw[h3];exact e1
theorem qw {xs ys:List Nat} (hl:xs.length=ys.length) (h:∀i,i<xs.length→xs.getD i 0=ys.getD i 0):xs=ys:=by
  apply List.ext_getElem hl;intro i h1 h2;have:=h i h1;simpa [List.getD_eq_getElem?_getD,h1,h2] using this
theorem Fe {ys H:List Nat} {k m r:Nat} (hy:Bytes ys) (hH:Bytes H) (hk:H.length=k) (hkm:k≤m) (hm:ys.length=m) (e:tailV ys 0 m=tailV H 0 k+2^(8*k)*r):ys=H++ys.drop k∧tailV (ys.drop k) 0 (m-k)=r:=by
  have h1:=vl hy 0 (m:=k) (n:=m) hkm;have hb:=nu hH k;rw[e,Nat.add_mul_mod_self_left,Nat.mod_eq_of_lt hb] at h1;have h3:ys.take k=H:=qw (by rw[List.length_take];omega) fun i hi=>by
    have hik:i<k:=by rw[List.length_take] at hi;omega
    have h4:=Aj hH hy k h1 i hik;rw[h4];simp[List.getD_eq_getElem?_getD,List.getElem?_take,hik]
  have h5:ys=H++ys.drop k:=by rw[←h3,List.take_append_drop]
  refine⟨h5,?_⟩;have h6:=l9 H (ys.drop k) (m-k) (by rw[List.length_drop];omega);rw[←h5,hk,show k+(m-k)=m by omega,e,Nat.mul_comm (2^(8*k)) r] at h6;have hp:=Nat.two_pow_pos (8*k);exact(Nat.eq_of_mul_eq_mul_right hp Om).symm
theorem Wm {L m:Nat} {P:List Int} {E W ys text:List Nat} {S:List Nat} {TT:List (Int × Nat)} {k:Nat} (hC:cp L P) (hD:dj (2^L) P E) (hW:Bytes W) (hk:k=(4+E.length+7)/8) (ta:W.length=k) (hV:tailV W 0 k=lowV (fU (L-5) 4++E)) (hy:Bytes ys) (Ej:ys.length=m) (h2:2≤text.length) (hs:∀s ∈ text,1≤(a8 P).getD s 0)
    (hm:m=k+(2*L+fN (buildD L (dA L P) (a8 P)) (encA L (dA L P) (a8 P) text))/8+1)
    (ht:tailV ys 0 m=lowV (fU (L-5) 4++E)+2^(8*k)*(2^(2*L+fN (buildD L (dA L P) (a8 P)) (encA L (dA L P) (a8 P) text))+(((encA L (dA L P) (a8 P) text).getD 0 0*2^L+(encA L (dA L P) (a8 P) text).getD 1 0)*2^fN (buildD L (dA L P) (a8 P)) (encA L (dA L P) (a8 P) text)+fR (buildD L (dA L P) (a8 P)) (encA L (dA L P) (a8 P) text)))):
    gK L P text ys∧2≤ys.length:=by
  rw[←hV] at ht;obtain⟨e1,e2⟩:=Fe hy hW ta Om Ej ht;refine⟨⟨hC,E,W,ys.drop k,e1,hD,hW,by rw[ta,hk],by rw[←hk];exact hV,⟨_,hC.laid.text hs h2,fun i hi h3=>hC.laid.ends hs i hi h3,fun x hx=>hy x (List.mem_of_mem_drop hx),?_,?_⟩⟩,Om⟩
  · rw[List.length_drop,Ej];show _=(2*L+fN (e7 L P) _)/8+1;unfold e7;omega
  · show tailV (ys.drop k) 0 ((2*L+fN (e7 L P) _)/8+1)=_;unfold e7;rw[←e2];congr 1;omega
theorem Lp {L:Nat} {CN:List Nat} {NR:List Int} {n s:Nat} (h:vV L CN NR n) (hs:s<n) (hc:CN.getD s 0≠0):1≤(a8 (NR.take n)).getD s 0:=by
  rw[zf,gQ hs];have:=h.I.z s hs;have:NR.getD s 0≠0:=fun e=>hc (this.1 e)
  omega
theorem Ip {L:Nat} {CN:List Nat} {NR:List Int} {n:Nat} (h:vV L CN NR n) (hn:1≤n) (hc:CN.getD (n-1) 0≠0):(NR.take n).getD (n-1) 0≠0:=by
  rw[gQ Om];exact fun e=>hc ((h.I.z _ Om).1 e)
theorem ad3 {L:Nat} (h:L=5∨L=6):∃sz,Lz L sz:=by
  rcases h with rfl|rfl
  · exact⟨32,.inl ⟨rfl,rfl⟩⟩
  · exact⟨64,.inr ⟨rfl,rfl⟩⟩
def cZ (Z:List Nat) (i:Nat):Nat:=Z.getD i 0%4294967296
def pZ (Z:List Nat) (i:Nat):Nat:=Z.getD i 0/4294967296%65536
def sZ (Z:List Nat) (i:Nat):Nat:=Z.getD i 0/281474976710656%256
def bZ (Z:List Nat) (i:Nat):Nat:=Z.getD i 0/72057594037927936%256
def Ci (x c:Nat):Nat:=x/4294967296*4294967296+c
def Ak (x p:Nat):Nat:=x%4294967296+p*4294967296+x/281474976710656*281474976710656
def mI (x n:Nat):Nat:=x%72057594037927936+n*72057594037927936
def PY (c s:Nat):Nat:=c+s*281474976710656
theorem Lq {x k:Nat} (hk:k≤64) (h:x<2^64):x&&&((2^(64-k)-1)*2^k)=x/2^k*2^k:=by
  apply Nat.eq_of_testBit_eq;intro i;rw[Nat.testBit_and,Nat.testBit_mul_two_pow,Nat.testBit_mul_two_pow,Nat.testBit_two_pow_sub_one,Nat.testBit_div_two_pow];by_cases h1:k≤i
  · rw[show i-k+k=i by omega];by_cases h2:i<64
    · simp[h1,show i-k<64-k by omega]
    · have:x.testBit i=false:=Nat.testBit_lt_two_pow (Nat.lt_of_lt_of_le h (Nat.pow_le_pow_right Om Om));simp[this]
  · simp[h1]
theorem TX {a b k:Nat} (h:b<2^k):a*2^k|||b=a*2^k+b:=by
  rw[Nat.or_comm,ld h,Nat.add_comm]
theorem Wn {x c:Nat} (h:x<18446744073709551616) (hc:c<4294967296):x&&&18446744069414584320|||c=Ci x c:=by
  have e:x&&&18446744069414584320=x/2^32*2^32:=Lq (k:=32) Od h;rw[e,TX (by simpa using hc)];rfl
theorem Wo {x n:Nat} (hn:n<256):x&&&72057594037927935|||n*2^56%18446744073709551616=mI x n:=by
  have e:x&&&72057594037927935=x%2^56:=Nat.and_two_pow_sub_one_eq_mod x 56;rw[e,Nat.mod_eq_of_lt (a:=n*2^56) Om,ld (Nat.mod_lt _ Od)];rfl
theorem Wp {c s:Nat} (hc:c<4294967296) (hs:s<256):c|||s*2^48%18446744073709551616=PY c s:=by
  rw[Nat.mod_eq_of_lt Om,ld Om];rfl
theorem Wq {x p:Nat} (h:x<18446744073709551616) (hp:p<65536):x&&&18446462603027808255|||p*2^32%18446744073709551616=Ak x p:=by
  have e0:(18446462603027808255:Nat)=18446462598732840960|||4294967295:=Od;have e1:x&&&18446462598732840960=x/2^48*2^48:=Lq (k:=48) Od h;have e2:x&&&4294967295=x%2^32:=Nat.and_two_pow_sub_one_eq_mod x 32;rw[e0,Nat.and_or_distrib_left,e1,e2,Nat.mod_eq_of_lt (a:=p*2^32) Om,Nat.or_assoc,ld (Nat.mod_lt _ Od),TX Om];unfold Ak;show x/281474976710656*281474976710656+(x%4294967296+p*4294967296)=_;omega
theorem Bu {x c:Nat} (h:x<18446744073709551616) (hc:c<4294967296):Ci x c<18446744073709551616:=by unfold Ci;omega
theorem jT {x n:Nat} (hn:n<256):mI x n<18446744073709551616:=by unfold mI;omega
theorem Bv {x p:Nat} (h:x<18446744073709551616) (hp:p<65536):Ak x p<18446744073709551616:=by unfold Ak;omega
theorem Lr {c s:Nat} (hc:c<4294967296) (hs:s<256):PY c s<18446744073709551616:=by unfold PY;omega
def gq (Z:List Nat):Prop:=∀i,Z.getD i 0<18446744073709551616
theorem gq.set {Z:List Nat} (h:gq Z) {i v:Nat} (hv:v<18446744073709551616):gq (Z.set i v):=fun j=>by
  rcases Nat.lt_or_ge i Z.length with hi|hi
  · rw[aM hi];split
    · exact hv
    · exact h j
  · rw[List.set_eq_of_length_le hi];exact h j
theorem gq.zero (n:Nat):gq (List.replicate n 0):=fun i=>by
  simp only[List.getD_eq_getElem?_getD,List.getElem?_replicate];split<;>simp
section
variable {Z:List Nat} {i j c p n s x:Nat}
theorem rI {f:Nat→Nat} {v:Nat} (hi:i<Z.length):f ((Z.set i v).getD j 0)=if i=j then f v else f (Z.getD j 0):=by
  rw[aM hi];split<;>rfl
theorem Ff (hi:i<Z.length) (hc:c<4294967296):cZ (Z.set i (Ci (Z.getD i 0) c)) j=if i=j then c else cZ Z j:=by
  unfold cZ;rw[rI (f:=fun x=>x%4294967296) hi];split
  · unfold Ci;omega
  · rfl
theorem ad4 (hi:i<Z.length) (hc:c<4294967296):pZ (Z.set i (Ci (Z.getD i 0) c)) j=pZ Z j:=by
  unfold pZ;rw[rI (f:=fun x=>x/4294967296%65536) hi];split
  · rename_i e;subst e;unfold Ci;omega
  · rfl
theorem ad5 (hi:i<Z.length) (hc:c<4294967296):sZ (Z.set i (Ci (Z.getD i 0) c)) j=sZ Z j:=by
  unfold sZ;rw[rI (f:=fun x=>x/281474976710656%256) hi];split
  · rename_i e;subst e;unfold Ci;omega
  · rfl
theorem ad6 (hi:i<Z.length) (hp:p<65536):cZ (Z.set i (Ak (Z.getD i 0) p)) j=cZ Z j:=by
  unfold cZ;rw[rI (f:=fun x=>x%4294967296) hi];split
  · rename_i e;subst e;unfold Ak;omega
  · rfl
theorem ad7 (hi:i<Z.length) (hp:p<65536):pZ (Z.set i (Ak (Z.getD i 0) p)) j=if i=j then p else pZ Z j:=by
  unfold pZ;rw[rI (f:=fun x=>x/4294967296%65536) hi];split
  · unfold Ak;omega
  · rfl
theorem ad8 (hi:i<Z.length) (hp:p<65536):sZ (Z.set i (Ak (Z.getD i 0) p)) j=sZ Z j:=by
  unfold sZ;rw[rI (f:=fun x=>x/281474976710656%256) hi];split
  · rename_i e;subst e;unfold Ak;omega
  · rfl
theorem ad9 (hi:i<Z.length) (hn:n<256):cZ (Z.set i (mI (Z.getD i 0) n)) j=cZ Z j:=by
  unfold cZ;rw[rI (f:=fun x=>x%4294967296) hi];split
  · rename_i e;subst e;unfold mI;omega
  · rfl
theorem alY (hi:i<Z.length) (hn:n<256):pZ (Z.set i (mI (Z.getD i 0) n)) j=pZ Z j:=by
  unfold pZ;rw[rI (f:=fun x=>x/4294967296%65536) hi];split
  · rename_i e;subst e;unfold mI;omega
  · rfl
theorem aea (hi:i<Z.length) (hn:n<256):sZ (Z.set i (mI (Z.getD i 0) n)) j=sZ Z j:=by
  unfold sZ;rw[rI (f:=fun x=>x/281474976710656%256) hi];split
  · rename_i e;subst e;unfold mI;omega
  · rfl
theorem De (hi:i<Z.length) (hn:n<256):bZ (Z.set i (mI (Z.getD i 0) n)) j=if i=j then n else bZ Z j:=by
  unfold bZ;rw[rI (f:=fun x=>x/72057594037927936%256) hi];split
  · unfold mI;omega
  · rfl
end
theorem aeb (Z:List Nat) (i:Nat):sZ Z i<256:=Nat.mod_lt _ Od
theorem aec (Z:List Nat) (i:Nat):bZ Z i<256:=Nat.mod_lt _ Od
def hB (CN:List Nat) (x:Nat):Nat:=av (CN.getD x 0+1)-1
theorem Al {CN:List Nat} {x:Nat} (h:CN.getD x 0≤262144):hB CN x≤18:=by
  unfold hB;have:av (CN.getD x 0+1)≤19:=dx Om;omega
theorem RL {CN:List Nat} {x y:Nat} (h:hB CN x<hB CN y):CN.getD x 0≤CN.getD y 0:=by
  unfold hB at h;have h1:=jd (CN.getD x 0+1);have h2:=tC (show 0<CN.getD y 0+1 by omega);have h3:=dT (show 0<CN.getD x 0+1 by omega);have h4:2^av (CN.getD x 0+1)≤2^(av (CN.getD y 0+1)-1):=Nat.pow_le_pow_right Om Om;omega
def bq (h:Nat→Nat) (len:Nat):Nat→Nat
  |0=>len
  |r+1=>bk h len r
theorem Bw (h:Nat→Nat) (len n:Nat):bq h len (n+1)+lO h n len=bq h len n:=by
  cases n with
  |zero=>exact o9 h len
  |succ n=>exact qV h n len
theorem yi {P:Nat→Bool}:∀{n:Nat},(∀x,x<n→P x=false)→ct P n=0
  |0,_=>rfl
  |n+1,h=>by simp only[ct];rw[yi fun x hx=>h x Om,h n Om];rfl
theorem Fg {h:Nat→Nat} {len r:Nat} (hr:∀x,x<len→h x≤r):bk h len r=0:=yi fun x hx=>K5 (by have:=hr x hx;omega)
theorem RM {h:Nat→Nat} {len r n:Nat} (hr:∀x,x<len→h x<r) (hn:n≤len):lO h r n=0:=yi fun x hx=>Ik (by have:=hr x Om;omega)
theorem Df {h:Nat→Nat} {r n:Nat}:lO h r (n+1)=lO h r n+if h n=r then 1 else 0:=by
  unfold lO;simp only[ct];split
  · rename_i e;rw[V6 e];rfl
  · rename_i e;rw[Ik e];rfl
section
variable {h:Nat→Nat} {K:List Nat} {len n:Nat}
def K0 (h:Nat→Nat) (K:List Nat) (n:Nat):Prop:=K.length=64∧(∀r,r<32→K.getD (r*2) 0=lO h r n)∧∀r,r<32→K.getD (r*2+1) 0=0
def K1 (h:Nat→Nat) (len:Nat) (K:List Nat) (n:Nat):Prop:=K.length=64∧(∀r,r<32→K.getD (r*2) 0=if n≤r then bq h len r else lO h r len)∧∀r,r<32→K.getD (r*2+1) 0=0
def K2 (h:Nat→Nat) (len:Nat) (K:List Nat) (n:Nat):Prop:=K.length=64∧(∀r,r<32→K.getD (r*2) 0=bq h len r)∧∀r,r<32→K.getD (r*2+1) 0=if r<n then bq h len r else 0
def K3 (h:Nat→Nat) (len:Nat) (K:List Nat) (n:Nat):Prop:=K.length=64∧(∀r,r<32→K.getD (r*2) 0=bq h len r)∧∀r,1≤r→r<32→K.getD (r*2+1) 0=bq h len r+lO h (r-1) n
theorem og (n i:Nat):(List.replicate n 0).getD i 0=0:=by
  rw[List.getD_eq_getElem?_getD,List.getElem?_replicate];split<;>rfl
theorem K0.begin:K0 h (List.replicate 64 0) 0:=⟨List.length_replicate,fun r hr=>og 64 _,fun r hr=>og 64 _⟩
theorem K0.step (hk:K0 h K n) {r:Nat} (hr:r=h n) (sF:r<32):K0 h (K.set (r*2) (K.getD (r*2) 0+1)) (n+1):=by
  obtain⟨h1,h2,h3⟩:=hk;refine⟨by simp[h1],fun q hq=>?_,fun q hq=>?_⟩
  · rw[aM Om,Df];by_cases e:r=q
    · subst e;rw[if_pos rfl,h2 r hq,if_pos hr.symm]
    · rw[if_neg Om,if_neg Om,h2 q hq];rfl
  · rw[aM Om,if_neg Om];exact h3 q hq
theorem K0.next (hk:K0 h K len) (hh:∀x,x<len→h x≤18):K1 h len K 19:=by
  obtain⟨h1,h2,h3⟩:=hk;refine⟨h1,fun r hr=>?_,h3⟩;rw[h2 r hr];split
  · rename_i h9;rw[RM (len:=len) (fun x hx=>by have:=hh x hx;omega) (Nat.le_refl _)];cases r with
    |zero=>omega
    |succ r=>exact(Fg fun x hx=>by have:=hh x hx;omega).symm
  · rfl
theorem K1.step (hk:K1 h len K n) (h1:1≤n) (hn:n≤19):K1 h len (K.set ((n-1)*2) (K.getD ((n-1)*2) 0+K.getD (n*2) 0)) (n-1):=by
  obtain⟨hl,h2,h3⟩:=hk;refine⟨by simp[hl],fun r hr=>?_,fun q hq=>?_⟩
  · rw[aM Om];by_cases e:n-1=r
    · subst e;rw[if_pos rfl,h2 _ hr,h2 n Om,if_neg Om,if_pos (Nat.le_refl _),if_pos (Nat.le_refl _), ←Bw h len (n-1),show n-1+1=n by omega,Nat.add_comm]
    · rw[if_neg Om,h2 r hr];by_cases e2:n≤r
      · rw[if_pos e2,if_pos Om]
      · rw[if_neg e2,if_neg Om]
  · rw[aM Om,if_neg Om];exact h3 q hq
theorem K1.next (hk:K1 h len K 0):K2 h len K 0:=by
  obtain⟨hl,h2,h3⟩:=hk;refine⟨hl,fun r hr=>?_,fun r hr=>by rw[if_neg Om];exact h3 r hr⟩;rw[h2 r hr,if_pos (Nat.zero_le _)]
theorem K2.step (hk:K2 h len K n) (hn:n<32):K2 h len (K.set (n*2+1) (K.getD (n*2) 0)) (n+1):=by
  obtain⟨hl,h2,h3⟩:=hk;refine⟨by simp[hl],fun r hr=>?_,fun r hr=>?_⟩
  · rw[aM Om,if_neg Om];exact h2 r hr
  · rw[aM Om];by_cases e:n=r
    · subst e;rw[if_pos rfl,if_pos Om];exact h2 n hn
    · rw[if_neg Om,h3 r hr];by_cases e2:r<n
      · rw[if_pos e2,if_pos Om]
      · rw[if_neg e2,if_neg Om]
theorem K2.next (hk:K2 h len K 19) (hh:∀x,x<len→h x≤18):K3 h len K 0:=by
  obtain⟨hl,h2,h3⟩:=hk;refine⟨hl,h2,fun r h1 hr=>?_⟩;rw[h3 r hr];have:lO h (r-1) 0=0:=rfl;rw[this];split
  · rfl
  · rename_i h9;cases r with
    |zero=>omega
    |succ r=>exact(Fg fun x hx=>by have:=hh x hx;omega).symm
theorem K3.step (hk:K3 h len K n) {r:Nat} (hr:r=h n+1) (sF:r<32):K3 h len (K.set (r*2+1) (K.getD (r*2+1) 0+1)) (n+1):=by
  obtain⟨hl,h2,h3⟩:=hk;refine⟨by simp[hl],fun q hq=>?_,fun q h1 hq=>?_⟩
  · rw[aM Om,if_neg Om];exact h2 q hq
  · rw[aM Om,Df];by_cases e:r=q
    · subst e;rw[if_pos rfl,h3 r Om hq,if_pos Om];omega
    · rw[if_neg Om,if_neg Om,h3 q h1 hq];rfl
theorem K3.at_ (hk:K3 h len K n) {r:Nat} (hr:r=h n+1) (sF:r<32):K.getD (r*2) 0=bk h len (h n)∧K.getD (r*2+1) 0=bk h len (h n)+lO h (h n) n:=by
  obtain⟨hl,h2,h3⟩:=hk;subst hr;exact⟨h2 _ sF,h3 _ Om sF⟩
end
def zz (Z:List Nat) (i:Nat):Nat × Nat:=(cZ Z (1+i),sZ Z (1+i))
theorem Ls {Z Z':List Nat} {i j:Nat} (h:Z.getD (1+i) 0=Z'.getD (1+j) 0):zz Z i=zz Z' j:=by unfold zz cZ sZ;rw[h]
theorem aed {Z:List Nat} {i c s:Nat} (h:Z.getD (1+i) 0=PY c s) (hc:c<4294967296) (hs:s<256):zz Z i=(c,s):=by
  unfold zz cZ sZ;rw[h];unfold PY;congr 1<;>omega
structure RN (Z0 Z:List Nat) (c b p p0:Nat):Prop where
  pb:b≤p∧p≤p0∧p0≤255
  len:Z.length=513
  z1:∀i,i<p→Z.getD (1+i) 0=Z0.getD (1+i) 0
  z3:∀i,p≤i→i<p0→Z.getD (1+(i+1)) 0=Z0.getD (1+i) 0
  z4:∀i,p0<i→Z.getD (1+i) 0=Z0.getD (1+i) 0
  hi:∀i,p≤i→i<p0→cZ Z0 (1+i)<c
section
variable {Z0 Z:List Nat} {c b p p0:Nat}
theorem RN.begin (h1:b≤p0) (h2:p0≤255) (hl:Z0.length=513):RN Z0 Z0 c b p0 p0:=⟨⟨h1,Nat.le_refl _,h2⟩,hl,fun _ _=>rfl,fun i h3 h4=>Om,fun _ _=>rfl,fun i h3 h4=>Om⟩
theorem RN.step (h:RN Z0 Z c b p p0) (hp:b<p) {y:Nat} (hy:y=Z.getD (1+(p+511)%512) 0) (hc:y%4294967296<c):RN Z0 (Z.set (1+p) y) c b (p-1) p0:=by
  obtain⟨h1,h2,h3⟩:=h.pb;have hl:=h.len;have e:(p+511)%512=p-1:=Om;rw[e] at hy;have hy2:y=Z0.getD (1+(p-1)) 0:=by rw[hy];exact h.z1 (p-1) Om
  refine⟨⟨Om,Om,h3⟩,by simp[hl],fun i hi=>?_,fun i hi hj=>?_,fun i hi=>?_,fun i hi hj=>?_⟩
  · rw[aM Om,if_neg Om];exact h.z1 i Om
  · rw[aM Om];by_cases e2:i+1=p
    · rw[if_pos Om,hy2,show p-1=i by omega]
    · rw[if_neg Om];exact h.z3 i Om hj
  · rw[aM Om,if_neg Om];exact h.z4 i hi
  · by_cases e2:i+1=p
    · unfold cZ;rw[show i=p-1 by omega, ←hy2];exact hc
    · exact h.hi i Om hj
theorem RN.fin {len n:Nat} {CN:List Nat} (h:RN Z0 Z (CN.getD n 0) (bk (hB CN) len (hB CN n)) p (bk (hB CN) len (hB CN n)+lO (hB CN) (hB CN n) n)) (H:HS len (fun x=>CN.getD x 0) (hB CN) n (zz Z0)) (hn:n<len) (hl:len≤256) (hc:CN.getD n 0≤262144)
    (qh:p=bk (hB CN) len (hB CN n)∨CN.getD n 0≤Z.getD (1+(p+511)%512) 0%4294967296):HS len (fun x=>CN.getD x 0) (hB CN) (n+1) (zz (Z.set (1+p) (PY (CN.getD n 0) n))):=by
  obtain⟨h1,h2,h3⟩:=h.pb;have hlen:=h.len;refine H.put hn ⟨h1,h2⟩ ?_ (fun i hi hj=>h.hi i hi hj) (fun i hi=>?_) ?_ (fun i hi hj=>?_) (fun i hi=>?_)
  · rcases qh with qh|qh
    · exact .inl qh
    · by_cases e:p=bk (hB CN) len (hB CN n)
      · exact .inl e
      · right;rw[show(p+511)%512=p-1 by omega,h.z1 (p-1) Om] at qh;exact qh
  · exact Ls (by rw[aM Om,if_neg Om];exact h.z1 i hi)
  · exact aed (by rw[aM Om,if_pos rfl]) Om Om
  · exact Ls (by rw[aM Om,if_neg Om];exact h.z3 i hi hj)
  · exact Ls (by rw[aM Om,if_neg Om];exact h.z4 i hi)
end
structure zi (CN Z:List Nat) (len:Nat):Prop where
  Bg:∀i,i<len→∃x,x<len∧cZ Z (1+i)=CN.getD x 0∧sZ Z (1+i)=x
  Lt:∀x,x<len→∃i,i<len∧cZ Z (1+i)=CN.getD x 0∧sZ Z (1+i)=x
  nR:∀i j,i≤j→j<len→cZ Z (1+j)≤cZ Z (1+i)
theorem zi.of {CN Z:List Nat} {len:Nat} (H:HS len (fun x=>CN.getD x 0) (hB CN) len (zz Z)) (hh:∀x,x<len→CN.getD x 0≤262144):zi CN Z len:=by
  obtain⟨h1,h2,h3⟩:=H.fin (R:=18) (Fg fun x hx=>Al (hh x hx)) fun x y _ _ h=>RL h
  refine⟨fun i hi=>?_,fun x hx=>?_,fun i j Cg hj=>h3 i j Cg hj⟩
  · obtain⟨x,a,b⟩:=h1 i hi;exact⟨x,a,congrArg Prod.fst b,congrArg Prod.snd b⟩
  · obtain⟨i,a,b⟩:=h2 x hx;exact⟨i,a,congrArg Prod.fst b,congrArg Prod.snd b⟩
theorem Bx {x:Nat}:x&&&511=x%512:=Nat.and_two_pow_sub_one_eq_mod x 9
theorem Hc {p:Nat} (h:p≤1000):(p+4294967296-1)%4294967296&&&511=(p+511)%512:=by rw[Bx];omega
theorem Wr {CN:List Nat} {x:Nat} (h:CN.getD x 0≤262144):av (CN.getD x 0+1)-1&&&31=hB CN x:=by
  have:=Al h;rw[show(31:Nat)=2^5-1 from rfl,Nat.and_two_pow_sub_one_eq_mod];exact Nat.mod_eq_of_lt (by unfold hB at this;omega)
theorem Ws {CN:List Nat} {x:Nat} (h:CN.getD x 0≤262144):av (CN.getD x 0+1)-1+1&&&31=hB CN x+1:=by
  have:=Al h;rw[show(31:Nat)=2^5-1 from rfl,Nat.and_two_pow_sub_one_eq_mod];exact Nat.mod_eq_of_lt (by unfold hB at this;omega)
def bL (Z:List Nat) (N:Nat):List Nat:=(List.range N).map fun i=>bZ Z (1+i)
theorem eS (Z:List Nat) (N:Nat):(bL Z N).length=N:=by simp[bL]
theorem fx {Z:List Nat} {N i:Nat} (h:i<N):(bL Z N).getD i 0=bZ Z (1+i):=by simp[bL,List.getD_eq_getElem?_getD,h]
theorem Lu {Z:List Nat} {N p n:Nat} (hp:p<N) (hl:N<Z.length) (hn:n<256):bL (Z.set (1+p) (mI (Z.getD (1+p) 0) n)) N=(bL Z N).set p n:=by
  refine qw (by rw[List.length_set,eS,eS]) fun i hi=>?_
  rw[eS] at hi;rw[fx hi,De Om hn,Ii (by rw[eS];exact hp),fx hi];by_cases e:p=i
  · subst e;rw[if_pos rfl,if_pos rfl]
  · rw[if_neg Om,if_neg Om]
def qx (Z0 Z:List Nat):Prop:=∀i,cZ Z i=cZ Z0 i∧sZ Z i=sZ Z0 i
theorem qx.RO (Z:List Nat):qx Z Z:=fun i=>⟨rfl,rfl⟩
theorem qx.B {Z0 Z:List Nat} (h:qx Z0 Z) {j n:Nat} (hj:j<Z.length) (hn:n<256):qx Z0 (Z.set j (mI (Z.getD j 0) n)):=fun i=>by rw[ad9 hj hn,aea hj hn];exact h i
structure PZ (b0:Nat→Nat) (L N:Nat):Prop where
  N2:2≤N∧N≤256
  nR:∀i j,i≤j→j<N→b0 i≤b0 j
  s7:∀i,i<N→1≤b0 i∧b0 i≤L
  top:b0 (N-1)=L
  sum:sm (fun i=>2^(L-b0 i)) N=2^L
section
variable {b0:Nat→Nat} {L N M q tc:Nat} {Z Z0:List Nat}
theorem PZ.first (h:PZ b0 L N) (hN:N≤2^M) (hL:M<L):b0 0≤M:=by
  apply Classical.byContradiction;intro hn;have h1:sm (fun i=>2^(L-b0 i)) N≤sm (fun _=>2^(L-M-1)) N:=GV fun i hi=>by
    have h2:=h.nR 0 i (Nat.zero_le _) hi;exact Nat.pow_le_pow_right Om Om
  rw[h.sum,gP] at h1;have h3:N*2^(L-M-1)≤2^M*2^(L-M-1):=Nat.mul_le_mul_right _ hN;rw[←Nat.pow_add] at h3;have h4:2^(M+(L-M-1))<2^L:=Nat.pow_lt_pow_right Om Om;omega
structure Cut (b0:Nat→Nat) (L N M:Nat) (Z:List Nat) (q tc:Nat):Prop where
  ql:q<N
  bits:∀i,i<N→bZ Z (1+i)=if i≤q then b0 i else M
  hi:∀i,q<i→i<N→M<b0 i
  cost:tc=sm (fun j=>2^(L-M)-2^(L-b0 (q+1+j))) (N-1-q)
theorem Cut.begin (h:PZ b0 L N) (hb:∀i,i<N→bZ Z (1+i)=b0 i):Cut b0 L N M Z (N-1) 0:=by
  have:=h.N2;exact⟨Om,fun i hi=>by rw[if_pos Om];exact hb i hi,fun i h1 h2=>Om,by rw[show N-1-(N-1)=0 by omega];rfl⟩
theorem Cut.small (h:Cut b0 L N M Z q tc) (hH:PZ b0 L N) (hL:L≤40):tc≤256*2^40:=by
  have h1:tc≤sm (fun _=>2^40) (N-1-q):=by
    rw[h.cost];exact GV fun j hj=>by
      have:2^(L-M)≤2^40:=Nat.pow_le_pow_right Om Om;exact Nat.le_trans (Nat.sub_le _ _) this
  rw[gP] at h1;have:=hH.N2;exact Nat.le_trans h1 (Nat.mul_le_mul_right _ Om)
theorem Cut.step (h:Cut b0 L N M Z q tc) (hH:PZ b0 L N) (hN:N≤2^M) (V5:M<L) (hq:M<bZ Z (1+q)) (hl:N<Z.length) (hM:M<256):1≤q∧Cut b0 L N M (Z.set (1+q) (mI (Z.getD (1+q) 0) M)) (q-1) (tc+(2^(L-M)-2^(L-bZ Z (1+q)))):=by
  have hb:=h.bits q h.ql;rw[if_pos (Nat.le_refl _)] at hb;rw[hb] at hq ⊢;have hf:=hH.first hN V5
  have hq1:1≤q:=by
    apply Classical.byContradiction;intro hn;have:q=0:=Om;rw[this] at hq;omega
  have TY:=h.ql;refine⟨hq1,Om,fun i hi=>?_,fun i h1 h2=>?_,?_⟩
  · rw[De Om hM];by_cases e:i=q
    · subst e;rw[if_pos rfl,if_neg Om]
    · rw[if_neg Om,h.bits i hi];by_cases e2:i≤q
      · rw[if_pos e2,if_pos Om]
      · rw[if_neg e2,if_neg Om]
  · by_cases e:i=q
    · subst e;exact hq
    · exact h.hi i Om h2
  · rw[show N-1-(q-1)=(N-1-q)+1 by omega,lB,h.cost,show q-1+1+0=q by omega,Nat.add_comm];congr 1;apply cg;intro j hj;show _=2^(L-M)-2^(L-b0 (q+(j+1)));rw[show q+(j+1)=q+1+j by omega]
structure TZ (M N:Nat) (Z:List Nat) (T:Nat):Prop where
  nR:∀i j,i≤j→j<N→bZ Z (1+i)≤bZ Z (1+j)
  s7:∀i,i<N→1≤bZ Z (1+i)∧bZ Z (1+i)≤M
  T1:1≤T
  sum:kr M (bL Z N)=2^M+T
  mm:T<mF M (bL Z N)
theorem Cut.fin (h:Cut b0 L N M Z q tc) (hH:PZ b0 L N) (V5:M<L) (hM:1≤M) (hq:bZ Z (1+q)≤M):TZ M N Z (tc/2^(L-M))∧∀i,q<i→i<N→bZ Z (1+i)=M:=by
  have hb:=h.bits q h.ql;rw[if_pos (Nat.le_refl _)] at hb;have TY:=h.ql;have hN:=hH.N2;have hqN:q+1<N:=by
    apply Classical.byContradiction;intro hn;have:q=N-1:=Om;rw[hb,this,hH.top] at hq;omega
  have h1:∀i,i≤q→b0 i≤M:=fun i hi=>by have:=hH.nR i q hi TY;omega
  obtain⟨T,t1,t2,t3,t4⟩:=V4 (bs:=bL Z N) V5 hqN h1 (fun i a b=>⟨h.hi i a b,(hH.s7 i b).2⟩) hH.sum (eS Z N) (fun i hi=>by rw[fx hi];exact h.bits i hi);have hT:tc/2^(L-M)=T:=by rw[h.cost,t1,Nat.mul_div_cancel _ (Nat.two_pow_pos _)]
  rw[hT];refine⟨⟨fun i j Cg hj=>?_,fun i hi=>?_,t2,t3,t4⟩,fun i a b=>by rw[h.bits i b,if_neg Om]⟩
  · rw[h.bits i Om,h.bits j hj];have:=hH.nR i j Cg hj;by_cases e:i≤q
    · rw[if_pos e];by_cases e2:j≤q
      · rw[if_pos e2];exact this
      · rw[if_neg e2];exact h1 i e
    · rw[if_neg e,if_neg Om];exact Nat.le_refl _
  · rw[h.bits i hi];have:=hH.s7 i hi;by_cases e:i≤q
    · rw[if_pos e];exact⟨this.1,h1 i e⟩
    · rw[if_neg e];exact⟨hM,Nat.le_refl _⟩
theorem TZ.short {T:Nat} (h:TZ M N Z T) (hN:N≤2^M):∃i,i<N∧bZ Z (1+i)<M:=by
  apply Classical.byContradiction;intro hn;have ha:∀i,i<(bL Z N).length→(bL Z N).getD i 0=M:=fun i hi=>by
    rw[eS] at hi;rw[fx hi];have h1:=h.s7 i hi;rcases Nat.lt_or_ge (bZ Z (1+i)) M with h2|h2
    · exact(hn ⟨i,hi,h2⟩).elim
    · omega
  have h1:=E4 ha;have h2:=h.sum;have h3:=h.T1;rw[h1,eS] at h2;omega
theorem TZ.prev {T:Nat} (h:TZ M N Z T) (hN:N≤2^M) (ha:∀i,q<i→i<N→bZ Z (1+i)=M) (hq:bZ Z (1+q)=M):1≤q:=by
  obtain⟨i,hi,hl⟩:=h.short hN;apply Classical.byContradiction;intro hn;by_cases e:i=q
  · subst e;omega
  · have:=ha i Om hi;omega
end
theorem Dg {Z:List Nat} {q N M:Nat} (ha:∀i,q<i→i<N→bZ Z (1+i)=M) (hq:bZ Z (1+q)=M) (h1:1≤q):∀i,q-1<i→i<N→bZ Z (1+i)=M:=fun i h2 h3=>by
  by_cases e:i=q
  · subst e;exact hq
  · exact ha i Om h3
structure Jg (M N:Nat) (Z:List Nat) (q k cu:Nat) (rl:List Nat):Prop where
  len:rl.length=13
  kq:k≤q+1
  cu1:k≤q→cu=bZ Z (1+k)
  cu2:k=q+1→cu=M
  rk:∀j,1≤j→j≤12→(rl.getD j 0=oa∧∀i,k≤i→i<N→bZ Z (1+i)+j≠M)∨(rl.getD j 0<N∧bZ Z (1+rl.getD j 0)+j=M∧∀i,rl.getD j 0<i→i<N→bZ Z (1+i)+j≠M)
section
variable {M N q k cu T:Nat} {Z rl:List Nat}
theorem Jg.begin (hl:rl.length=13) (hr:∀i,i<13→rl.getD i 0=oa) (ha:∀i,q<i→i<N→bZ Z (1+i)=M):Jg M N Z q (q+1) M rl:=
  ⟨hl,Nat.le_refl _,fun h=>Om,fun _=>rfl,fun j h1 h2=>.inl ⟨hr j Om,fun i h3 h4=>by rw[ha i Om h4];omega⟩⟩
theorem Jg.same (h:Jg M N Z q k cu rl) (hc:TZ M N Z T) (hk:1≤k) (hq:q<N) (hqM:bZ Z (1+q)≠M) (hb:¬bZ Z (1+(k-1))<cu):Jg M N Z q (k-1) cu rl:=by
  have hkq:=h.kq;have h1:=hc.nR (k-1) q Om hq;have h2:=hc.s7 q hq;have y8:k≤q:=by
    apply Classical.byContradiction;intro hn;have:=h.cu2 Om;omega
  have hcu:=h.cu1 y8;have h3:=hc.nR (k-1) k Om Om;refine⟨h.len,Om,fun _=>Om,fun _=>Om,fun j j1 j2=>?_⟩;rcases h.rk j j1 j2 with ⟨r1,r2⟩|r
  · refine .inl ⟨r1,fun i h4 h5=>?_⟩;by_cases e:i=k-1
    · subst e;have:=r2 k (Nat.le_refl _) Om;omega
    · exact r2 i Om h5
  · exact .inr r
theorem Jg.new (h:Jg M N Z q k cu rl) (hc:TZ M N Z T) (hk:1≤k) (hq:q<N) (ha:∀i,q<i→i<N→bZ Z (1+i)=M) (hM:M≤11) (hb:bZ Z (1+(k-1))<cu):Jg M N Z q (k-1) (bZ Z (1+(k-1))) (rl.set (M-bZ Z (1+(k-1))) (k-1)):=by
  have hkq:=h.kq;have hl:=h.len;have hr:=hc.s7 (k-1) Om;have hcM:cu≤M:=by
    rcases Nat.lt_or_ge q k with e|e
    · have:=h.cu2 Om;omega
    · have:=h.cu1 e;have:=hc.s7 k Om;omega
  have hup:∀i,k≤i→i<N→cu≤bZ Z (1+i):=fun i h1 h2=>by
    rcases Nat.lt_or_ge q k with e|e
    · rw[ha i Om h2];exact hcM
    · rw[h.cu1 e];exact hc.nR k i h1 h2
  refine⟨by simp[hl],Om,fun _=>by rw[show 1+(k-1)=1+(k-1) from rfl],fun _=>Om,fun j j1 j2=>?_⟩;rw[aM Om];by_cases e:M-bZ Z (1+(k-1))=j
  · rw[if_pos e];refine .inr ⟨Om,Om,fun i h1 h2=>?_⟩;have:=hup i Om h2;omega
  · rw[if_neg e];rcases h.rk j j1 j2 with ⟨r1,r2⟩|r
    · refine .inl ⟨r1,fun i h4 h5=>?_⟩;by_cases e2:i=k-1
      · subst e2;omega
      · exact r2 i Om h5
    · exact .inr r
theorem Jg.fin (h:Jg M N Z q 0 cu rl) (hc:TZ M N Z T) (hM:M≤11) (hN:N≤256) (zh:N≤2^M):x' M (bL Z N) ((T:Nat):Int) rl:=by
  have hT:=hc.T1;have hs:=hc.sum;have hm:=hc.mm;refine⟨hM,by rw[eS];exact⟨hN,zh⟩,fun i j Cg hj=>?_,fun i hi=>?_,by rw[hs];push_cast;rfl,⟨Om,Om⟩,fun h9=>Om,h.len,fun j j1 j2=>?_⟩
  · rw[eS] at hj;rw[fx Om,fx hj];exact hc.nR i j Cg hj
  · rw[eS] at hi;rw[fx hi];exact hc.s7 i hi
  · rcases h.rk j j1 j2 with ⟨r1,r2⟩|⟨r1,r2,r3⟩
    · refine .inl ⟨r1,fun i hi=>?_⟩;rw[eS] at hi;rw[fx hi];exact r2 i (Nat.zero_le _) hi
    · refine .inr ⟨by rw[eS];exact r1,by rw[fx r1];exact r2,fun i h4 hi=>?_⟩;rw[eS] at hi;rw[fx hi];exact r3 i h4 hi
end
section
variable {M N q k:Nat} {Z rl:List Nat} {T:Int}
theorem x'.atZ (h:x' M (bL Z N) T rl) {k:Nat} (h1:1≤k) (h2:k≤12) (hk:rl.getD k 0≠oa):rl.getD k 0<N∧bZ Z (1+rl.getD k 0)+k=M∧1≤bZ Z (1+rl.getD k 0):=by
  obtain⟨a,b,c⟩:=h.at_ h1 h2 hk;have d:=h.s7 _ a;rw[eS] at a;rw[fx a] at b d;exact⟨a,b,d.1⟩
theorem x'.small (h:x' M (bL Z N) T rl):T≤256:=by
  have h1:=h.mm;have h2:=Bd (M:=M) (bs:=bL Z N);have h3:=h.len.1;omega
theorem x'.ue (h:x' M (bL Z N) T rl) (hT:0<T) {k p:Nat} (h1:1≤k) (h2:k≤12) (hk:rl.getD k 0≠oa) (hp:p=rl.getD k 0) (hl:N<Z.length)
    (hc:2^(k-1)≤T.toNat∨∀j,1≤j→j<k→rl.getD j 0=oa) {r1 rl':List Nat} (Ah:r1=if rl.getD (k-1) 0=oa then rl.set (k-1) p else rl)
    (hrl:(p=0∧rl'=r1.set k oa)∨(p≠0∧bZ Z (1+(p-1))+k=M∧rl'=r1.set k (p-1))∨(p≠0∧bZ Z (1+(p-1))+k≠M∧rl'=r1.set k oa)) {w:Nat} (hw:w=1+bZ Z (1+p)):
    x' M (bL (Z.set (1+p) (mI (Z.getD (1+p) 0) w)) N) (T-((2^(k-1):Nat):Int)) rl':=by
  subst hp;obtain⟨a,b,c⟩:=h.atZ h1 h2 hk;have Fh:w=M-k+1:=Om;have hM:=h.V2;rw[Lu a hl Om,Fh];have hs:=h.step hT h1 h2 hk (by
    by_cases e:((2^(k-1):Nat):Int)≤T
    · exact .inl e
    · refine .inr ⟨Om,?_⟩;rcases hc with hc|hc
      · omega
      · exact hc)
  have e:rl'=sC M (bL Z N) rl k (rl.getD k 0):=by
    unfold sC;simp only[];rw[←Ah];rcases hrl with ⟨e1,e2⟩|⟨e1,e2,e3⟩|⟨e1,e2,e3⟩
    · rw[if_pos e1,e2]
    · rw[if_neg e1,fx Om,if_pos e2,e3]
    · rw[if_neg e1,fx Om,if_neg e2,e3]
  rw[e];exact hs
theorem lf {p w:Nat} (ha:∀i,q<i→i<N→bZ Z (1+i)=M) (hp:p<N) (hb:bZ Z (1+p)≠M) (hl:N<Z.length) (hw:w<256):∀i,q<i→i<N→bZ (Z.set (1+p) (mI (Z.getD (1+p) 0) w)) (1+i)=M:=fun i h1 h2=>by
  rw[De Om hw];split
  · rename_i e;have:p=i:=Om;subst this;exact absurd (ha p h1 hp) hb
  · exact ha i h1 h2
theorem x'.alZ (h:x' M (bL Z N) T rl) (hT:T≤0) (hq:q<N) (ha:∀i,q<i→i<N→bZ Z (1+i)=M):yb M (bL Z N) T (rl.getD 1 0) q:=
  h.pay hT ⟨by rw[eS];exact hq,fun i h1 h2=>by rw[eS] at h2;rw[fx h2];exact ha i h1 h2⟩
theorem yb.prev {v n:Nat} (h:yb M (bL Z N) T v n) (hT:T<0) (ha:∀i,q<i→i<N→bZ Z (1+i)=M) (hq:bZ Z (1+q)=M):1≤q:=by
  obtain⟨i,hi,hl⟩:=h.ex hT;rw[eS] at hi;rw[fx hi] at hl;apply Classical.byContradiction;intro hn;by_cases e:i=q
  · subst e;omega
  · have:=ha i Om hi;omega
theorem yb.nnZ {n:Nat} {v:Nat} (h:yb M (bL Z N) T v n) (hv:v=oa):n<N∧∀i,n<i→i<N→bZ Z (1+i)=M:=by
  obtain⟨a,b⟩:=h.nn hv;rw[eS] at a;exact⟨a,fun i h1 h2=>by have:=b i h1 (by rw[eS];exact h2);rwa [fx h2] at this⟩
theorem yb.Wt {v n:Nat} (h:yb M (bL Z N) T v n) (hT:T<0) (hq:q<N) (h2:bZ Z (1+q)≠M) (ha:∀i,q<i→i<N→bZ Z (1+i)=M):q+1<N∧bZ Z (1+(q+1))=M∧∀i,i<q+1→(bL Z N).getD i 0<M:=by
  obtain⟨a,b,c⟩:=h.first hT (n':=q) (by rw[eS];exact hq) (by rw[fx hq];exact h2) (fun i h1 h3=>by rw[eS] at h3;rw[fx h3];exact ha i h1 h3)
  rw[eS] at a;rw[fx a] at b;exact⟨a,b,c⟩
theorem yb.aee {v n:Nat} (h:yb M (bL Z N) T v n) (hT:T<0) (hv:v≠oa):v+1<N∧bZ Z (1+(v+1))=M∧∀i,i<v+1→(bL Z N).getD i 0<M:=by
  obtain⟨a,b,c⟩:=h.next hT hv;rw[eS] at a;rw[fx a] at b;exact⟨a,b,c⟩
theorem yb.Wu {v n p w:Nat} (h:yb M (bL Z N) T v n) (hT:T<0) (hp:p<N) (hM:bZ Z (1+p)=M) (hl:∀i,i<p→(bL Z N).getD i 0<M) (hZ:N<Z.length) (hw:w=bZ Z (1+p)-1) (n':Nat):yb M (bL (Z.set (1+p) (mI (Z.getD (1+p) 0) w)) N) (T+1) p n':=by
  have ui:=h.V2;rw[Lu hp hZ Om,hw,hM];exact h.put hT (by rw[eS];exact hp) (by rw[fx hp];exact hM) hl n'
structure Whl (Z:List Nat) (N R:Nat):Prop where
  s7:∀i,i<N→1≤bZ Z (1+i)∧bZ Z (1+i)≤R
  sum:sm (fun i=>2^(R-bZ Z (1+i))) N=2^R
  top:∃i,i<N∧bZ Z (1+i)=R
theorem yb.done {v n:Nat} (h:yb M (bL Z N) T v n) (hT:¬T<0):Whl Z N M:=by
  have h0:=h.T0;have hs:=h.sum;have hm:=h.mm;have K9:T=0:=Om;subst K9;refine⟨fun i hi=>by have:=h.s7 i (by rw[eS];exact hi);rwa [fx hi] at this,?_,?_⟩
  · have h1:kr M (bL Z N)=2^M:=Om;rw[K4,eS] at h1;rw[←h1];exact cg fun i hi=>by rw[fx hi]
  · obtain⟨i,hi,he⟩:=ua (M:=M) (bs:=bL Z N) Om;rw[eS] at hi;rw[fx hi] at he;exact⟨i,hi,he⟩
theorem PZ.done {b0:Nat→Nat} {L:Nat} (h:PZ b0 L N) (hb:∀i,i<N→bZ Z (1+i)=b0 i):Whl Z N L:=by
  have hN:=h.N2;refine⟨fun i hi=>by rw[hb i hi];exact h.s7 i hi,?_,⟨N-1,Om,by rw[hb _ Om];exact h.top⟩⟩;rw[←h.sum];exact cg fun i hi=>by rw[hb i hi]
end
def Dh (ok:Bool) (t:TypeId) (x:Value):Value:=match ok with
  |true=>.nilIface
  |false=>.iface t x
variable {P:Program} {ρ:ba} {o:Oper} {x:Operand}
theorem By {ms:Array (String × TypeId)} {ok:Bool} {T:TypeId} {u:Value} {ty cT:TypeId} (ho:o.op=.binOp .neq ty x (.const .nilIface) cT) (hx:ev ρ x=some (Dh ok T u)) (hu:P.underlying ty=some (.interface ms)):bB P ρ o (.bool (!ok)):=by
  cases ok with
  |true=>exact cR ho hx hu
  |false=>exact va ho hx hu
theorem RP {ms:Array (String × TypeId)} {ok:Bool} {T:TypeId} {u:Value} {ty cT:TypeId} (ho:o.op=.binOp .eql ty x (.const .nilIface) cT) (hx:ev ρ x=some (Dh ok T u)) (hu:P.underlying ty=some (.interface ms)):bB P ρ o (.bool ok):=by
  cases ok with
  |true=>exact Ey ho hx hu
  |false=>exact zL ho hx hu
theorem Iq {ty:TypeId} {a:Int} (ho:o.op=.unOp .neg ty x) (hx:ev ρ x=some (.int .i16 a)) (h: -32768≤ -a∧ -a≤32767):bB P ρ o (.int .i16 (-a)):=(adr ho hx).cast (by rw[IntWalk.i16_in _ h])
def uj (N sl m p u c S B0 B:Nat) (K Q:Nat→Nat):Prop:=Tr N (fun i=>K (1+i)) m p u c S B0 B (fun a=>K (1+sl+a)) (fun i=>Q (1+i)) (fun a=>Q (1+sl+a))
section
variable {N sl m p u c S B0 B:Nat} {K Q:Nat→Nat}
theorem uj.num (h:uj N sl m p u c S B0 B K Q):N-u+c=2*m+p∧u≤N∧c≤m∧p≤2:=Tr.num h
theorem uj.leaf (h:uj N sl m p u c S B0 B K Q) (hN:N≤sl) (hp:p≤1) (hu:0<u) (hc:c=m∨K u≤K (1+sl+c)):uj N sl m (p+1) (u-1) c (S+K u) B0 (K u) K (fun j=>if j=u then m else Q j):=by
  have hn:=h.num;have e:1+(u-1)=u:=Om;have h1:=Tr.leaf h hp hu (by show c=m∨K (1+(u-1))≤_;rw[e];exact hc);simp only[e] at h1;refine h1.congr (fun a ha=>rfl) (fun i h2 h3=>?_) (fun a ha=>?_)
  · show(if 1+i=u then m else Q (1+i))=if i=u-1 then m else Q (1+i)
    by_cases e2:i=u-1
    · rw[if_pos e2,if_pos Om]
    · rw[if_neg e2,if_neg Om]
  · show(if 1+sl+a=u then m else Q (1+sl+a))=Q (1+sl+a);rw[if_neg Om]
theorem uj.inner (h:uj N sl m p u c S B0 B K Q) (hN:N≤sl) (hp:p≤1) (vU:c<m) (hc:u=0∨K (1+sl+c)≤K u):uj N sl m (p+1) u (c+1) (S+K (1+sl+c)) B0 (K (1+sl+c)) K (fun j=>if j=1+sl+c then m else Q j):=by
  have hn:=h.num;have h1:=Tr.inner h hp vU (by
    rcases hc with hc|hc
    · exact .inl hc
    · by_cases e0:u=0
      · exact .inl e0
      · right;show K (1+sl+c)≤K (1+(u-1));rw[show 1+(u-1)=u by omega];exact hc)
  refine h1.congr (fun a ha=>rfl) (fun i h2 h3=>?_) (fun a ha=>?_)
  · show(if 1+i=1+sl+c then m else Q (1+i))=Q (1+i);rw[if_neg Om]
  · show(if 1+sl+a=1+sl+c then m else Q (1+sl+a))=if a=c then m else Q (1+sl+a)
    by_cases e2:a=c
    · rw[if_pos e2,if_pos Om]
    · rw[if_neg e2,if_neg Om]
theorem TrC {N m p u c S B0 B:Nat} {C C' CI PL PI:Nat→Nat} (h:Tr N C m p u c S B0 B CI PL PI) (hC:∀i,i<N→C' i=C i):Tr N C' m p u c S B0 B CI PL PI:=by
  have hn:=h.num;have hs:∀n,n≤N→sm C' n=sm C n:=fun n h1=>cg fun i hi=>hC i Om
  constructor
  · exact h.num
  · intro i j a b;rw[hC i Om,hC j b];exact h.nR i j a b
  · exact h.pl
  · exact h.pi
  · exact h.ml
  · exact h.mi
  · exact h.w
  · exact h.bb
  · intro i a b;rw[hC i b];exact h.c1 i a b
  · exact h.c2
  · intro i a;rw[hC i Om];exact h.c3 i a
  · exact h.c4
  · exact h.cs
  · exact h.cm
  · exact h.ti
  · intro i a b d e;rw[hC i b];exact h.g1 i a b d e
  · exact h.g2
  · intro i a b d;rw[hC i b];exact h.q1 i a b d
  · exact h.q2
  · rw[hs u Om,hs N (Nat.le_refl _)];exact h.iy
theorem uj.node (h:uj N sl m 2 u c S B0 B K Q) {K' Q':Nat→Nat} (hK:∀j,j≠1+sl+m→j≤1+sl+m→K' j=K j) (hKm:K' (1+sl+m)=S) (hN:N≤sl) (hQ:∀j,(u<j∧j≤N)∨(sl<j∧j<1+sl+c)→Q' j=Q j):uj N sl (m+1) 0 u c 0 B B K' Q':=by
  have h1:=Tr.node h;have h2:Tr N (fun i=>K (1+i)) (m+1) 0 u c 0 B B (fun a=>K' (1+sl+a)) (fun i=>Q' (1+i)) (fun a=>Q' (1+sl+a)):=by
    refine h1.congr (fun a ha=>?_) (fun i h2 h3=>hQ _ (.inl ⟨Om,Om⟩)) (fun a ha=>hQ _ (.inr ⟨Om,Om⟩));show K' (1+sl+a)=if a=m then S else K (1+sl+a)
    by_cases e:a=m
    · subst e;rw[if_pos rfl,hKm]
    · rw[if_neg e];exact hK _ Om Om
  have hn:=h.num;exact TrC h2 (fun i hi=>(hK (1+i) Om Om))
theorem uj.begin {N sl:Nat} {K:Nat→Nat} (hs:∀i j,i≤j→j<N→K (1+j)≤K (1+i)) (Q:Nat→Nat):uj N sl 0 0 N 0 0 0 0 K Q:=Tr.begin (C:=fun i=>K (1+i)) (fun i j a b=>hs i j a b) _ _ _
theorem uj.small (h:uj N sl m p u c S B0 B K Q) (h1:c<m):K (1+sl+c)≤sm (fun i=>K (1+i)) N:=by
  have ht:=Tr.iy h;have h2:=mH (W:=fun a=>K (1+sl+a)) (show c+1≤m by omega);simp only[sm] at h2;omega
theorem uj.pick (h:uj N sl m p u c S B0 B K Q) (hN:N≤sl) (hp:p≤1) (hm:m+1<N) (hb:K 0=2147483648) (hf:∀a,m≤a→a+1<N→K (1+sl+a)=1073741824) (hK:sm (fun i=>K (1+i)) N<1073741824):
    (K u<K (1+sl+c)→1≤u∧uj N sl m (p+1) (u-1) c (S+K u) B0 (K u) K (fun j=>if j=u then m else Q j))∧
    (¬K u<K (1+sl+c)→c<m∧uj N sl m (p+1) u (c+1) (S+K (1+sl+c)) B0 (K (1+sl+c)) K (fun j=>if j=1+sl+c then m else Q j)):=by
  have hn:=h.num;have Ij:K (1+sl+c)≤1073741824∨c<m:=by
    by_cases e:c<m
    · exact .inr e
    · left;rw[hf c Om Om];exact Nat.le_refl _
  constructor
  · intro fg;have hu:1≤u:=by
      apply Classical.byContradiction;intro hu;have e:u=0:=Om;rw[e,hb] at fg;rcases Ij with h9|h9
      · omega
      · have:=h.small h9;omega
    exact⟨hu,h.leaf hN hp hu (by
      by_cases e:c=m
      · exact .inl e
      · exact .inr (Nat.le_of_lt fg))⟩
  · intro wq;have vU:c<m:=by
      apply Classical.byContradiction;intro EN;have e:c=m:=Om;rw[e,hf m (Nat.le_refl _) hm] at wq;by_cases e0:u=0
      · omega
      · have:=qu (W:=fun i=>K (1+i)) (i:=u-1) (n:=N) Om;simp only[show 1+(u-1)=u by omega] at this;omega
    refine⟨vU,h.inner hN hp vU ?_⟩;by_cases e0:u=0
    · exact .inl e0
    · right;omega
end
def Fi (N sl u c j:Nat):Prop:=(u<j∧j≤N)∨(sl<j∧j<1+sl+c)
structure TW (Z0 Z:List Nat) (N sl m u c B:Nat) (Q:Nat→Nat):Prop where
  tr:uj N sl m 0 u c 0 B B (cZ Z) Q
  kl:∀i,i<N→cZ Z (1+i)=cZ Z0 (1+i)
  par:∀j,Fi N sl u c j→pZ Z j=sl+Q j
  sy:∀i,sZ Z i=sZ Z0 i
section
variable {Z0 Z:List Nat} {N sl m u c B:Nat} {Q:Nat→Nat}
theorem TW.begin {CN:List Nat} (hs:zi CN Z0 sl) (hN:N≤sl):TW Z0 Z0 N sl 0 N 0 0 (fun _=>0):=
  ⟨uj.begin (fun i j a b=>hs.nR i j a Om) _,fun _ _=>rfl,fun j h=>by unfold Fi at h;omega,fun _=>rfl⟩
theorem uj.Wv {p S B0:Nat} {K K':Nat→Nat} (h:uj N sl m p u c S B0 B K Q) (h1:∀i,i<N→K' (1+i)=K (1+i)) (h2:∀a,a<m→K' (1+sl+a)=K (1+sl+a)):uj N sl m p u c S B0 B K' Q:=
  TrC (Tr.congr h (fun a ha=>h2 a ha) (fun i _ _=>rfl) (fun a _=>rfl)) h1
theorem TW.VW (h:TW Z0 Z N sl m u c B Q) {j v:Nat} (hj:j<Z.length) (hv:v<4294967296) (h1:j=0∨1+sl+m≤j) (hN:N≤sl):TW Z0 (Z.set j (Ci (Z.getD j 0) v)) N sl m u c B Q:=by
  refine⟨h.tr.Wv (fun i hi=>?_) (fun a ha=>?_),fun i hi=>?_,fun i hi=>?_,fun i=>?_⟩
  · rw[Ff hj hv,if_neg Om]
  · rw[Ff hj hv,if_neg Om]
  · rw[Ff hj hv,if_neg Om];exact h.kl i hi
  · rw[ad4 hj hv];exact h.par i hi
  · rw[ad5 hj hv];exact h.sy i
theorem TW.next (h:TW Z0 Z N sl m u c B Q) {k1 k2 u2 c2 B2 v w:Nat} (h2:uj N sl m 2 u2 c2 (cZ Z k1+cZ Z k2) B B2 (cZ Z) (fun j=>if j=k2 then m else if j=k1 then m else Q j)) (hN:N≤sl)
    (hk:∀j,Fi N sl u2 c2 j→j=k1∨j=k2∨Fi N sl u c j) (h3:k1<1+sl+m) (h4:k2<1+sl+m) (hl:1+sl+m<Z.length) (hv:v=cZ Z k1+cZ Z k2) (y':v<4294967296) (hw:w=sl+m) (Fh:w<65536) {Z1 Z2 Z3:List Nat}
    (RQ:Z1=Z.set (1+(sl+m)) (Ci (Z.getD (1+(sl+m)) 0) v)) (RR:Z2=Z1.set k1 (Ak (Z1.getD k1 0) w)) (hZ3:Z3=Z2.set k2 (Ak (Z2.getD k2 0) w)):
    TW Z0 Z3 N sl (m+1) u2 c2 B2 (fun j=>if j=k2 then m else if j=k1 then m else Q j)∧(∀j,j≠1+sl+m→cZ Z3 j=cZ Z j):=by
  have l1:Z1.length=Z.length:=by rw[RQ,List.length_set]
  have l2:Z2.length=Z.length:=by rw[RR,List.length_set,l1]
  have hc:∀j,cZ Z3 j=if 1+(sl+m)=j then v else cZ Z j:=fun j=>by
    rw[hZ3,ad6 Om Fh,RR,ad6 Om Fh,RQ,Ff Om y']
  have hp:∀j,pZ Z3 j=if k2=j then w else if k1=j then w else pZ Z j:=fun j=>by
    rw[hZ3,ad7 Om Fh];by_cases e:k2=j
    · rw[if_pos e,if_pos e]
    · rw[if_neg e,if_neg e,RR,ad7 Om Fh];by_cases e2:k1=j
      · rw[if_pos e2,if_pos e2]
      · rw[if_neg e2,if_neg e2,RQ,ad4 Om y']
  have hs:∀j,sZ Z3 j=sZ Z j:=fun j=>by
    rw[hZ3,ad8 Om Fh,RR,ad8 Om Fh,RQ,ad5 Om y']
  refine⟨⟨h2.node (fun j j1 j2=>by rw[hc,if_neg Om]) (by rw[hc,if_pos Om,hv]) hN (fun j _=>rfl),fun i hi=>?_,fun j hj=>?_,fun j=>by rw[hs];exact h.sy j⟩,fun j hj=>by rw[hc,if_neg Om]⟩
  · rw[hc,if_neg Om];exact h.kl i hi
  · rw[hp];show _=sl+(if j=k2 then m else if j=k1 then m else Q j);by_cases e:k2=j
    · rw[if_pos e,if_pos (show j=k2 from e.symm),hw]
    · rw[if_neg e,if_neg (show¬j=k2 from fun q=>e q.symm)];by_cases e2:k1=j
      · rw[if_pos e2,if_pos (show j=k1 from e2.symm),hw]
      · rw[if_neg e2,if_neg (show¬j=k1 from fun q=>e2 q.symm)];rcases hk j hj with h9|h9|h9
        · exact absurd h9.symm e2
        · exact absurd h9.symm e
        · exact h.par j h9
end
def uk (Z0 Z:List Nat):Prop:=∀j,cZ Z j=cZ Z0 j∧pZ Z j=pZ Z0 j∧sZ Z j=sZ Z0 j
theorem uk.RO (Z:List Nat):uk Z Z:=fun _=>⟨rfl,rfl,rfl⟩
theorem uk.B {Z0 Z:List Nat} (h:uk Z0 Z) {j n:Nat} (hj:j<Z.length) (hn:n<256):uk Z0 (Z.set j (mI (Z.getD j 0) n)):=fun i=>by rw[ad9 hj hn,alY hj hn,aea hj hn];exact h i
structure T4 (Z:List Nat) (sl m k:Nat) (Q:Nat→Nat):Prop where
  le:∀a,k≤a→a<m→bZ Z (1+sl+a)+a+1≤m
  top:bZ Z (1+sl+(m-1))=0
  PV:∀a,k≤a→a+1<m→bZ Z (1+sl+a)=bZ Z (1+sl+Q (1+sl+a))+1
structure LfD (Z:List Nat) (sl m n:Nat) (Q:Nat→Nat):Prop where
  ind:T4 Z sl m 0 Q
  leaf:∀i,i<n→bZ Z (1+i)=bZ Z (1+sl+Q (1+i))+1
section
variable {Z0 Z:List Nat} {N sl m k n u c B:Nat} {Q:Nat→Nat}
theorem T4.begin (hj:1+sl+(m-1)<Z.length) (h1:1≤m):T4 (Z.set (1+(sl+(m-1))) (mI (Z.getD (1+(sl+(m-1))) 0) 0)) sl m (m-1) Q:=by
  have e:bZ (Z.set (1+(sl+(m-1))) (mI (Z.getD (1+(sl+(m-1))) 0) 0)) (1+sl+(m-1))=0:=by rw[De Om Od,if_pos Om]
  exact⟨fun a h2 h3=>by rw[show a=m-1 by omega,e];omega,e,fun a h2 h3=>Om⟩
theorem T4.step (h:T4 Z sl m k Q) (hk:1≤k) (hkm:k+1≤m) (hl:1+sl+m≤Z.length) (hQ:k-1<Q (1+sl+(k-1))∧Q (1+sl+(k-1))<m) {w:Nat} (hw:w=bZ Z (1+(sl+Q (1+sl+(k-1))))+1) (Fh:w<256) (hQa:∀a,k≤a→a+1<m→a<Q (1+sl+a)∧Q (1+sl+a)<m):T4 (Z.set (1+(sl+(k-1))) (mI (Z.getD (1+(sl+(k-1))) 0) w)) sl m (k-1) Q:=by
  have hb:∀j,bZ (Z.set (1+(sl+(k-1))) (mI (Z.getD (1+(sl+(k-1))) 0) w)) j=if 1+(sl+(k-1))=j then w else bZ Z j:=fun j=>De Om Fh
  have e1:=h.le (Q (1+sl+(k-1))) Om hQ.2;rw[show 1+(sl+Q (1+sl+(k-1)))=1+sl+Q (1+sl+(k-1)) by omega] at hw;refine⟨fun a h1 h2=>?_,?_,fun a h1 h2=>?_⟩
  · rw[hb];split
    · omega
    · exact h.le a Om h2
  · rw[hb,if_neg Om];exact h.top
  · by_cases e:a=k-1
    · rw[e,hb,if_pos Om,hb,if_neg Om,hw]
    · rw[hb,if_neg Om,hb,if_neg (by have:=hQa a Om h2;omega)];exact h.PV a Om h2
theorem LfD.step (h:LfD Z sl m n Q) (hN:N≤sl) (hn:n<N) (hl:1+sl+m≤Z.length) {w:Nat} (hw:w=bZ Z (1+(sl+Q (1+n)))+1) (Fh:w<256):LfD (Z.set (1+n) (mI (Z.getD (1+n) 0) w)) sl m (n+1) Q:=by
  have hb:∀j,bZ (Z.set (1+n) (mI (Z.getD (1+n) 0) w)) j=if 1+n=j then w else bZ Z j:=fun j=>De Om Fh
  rw[show 1+(sl+Q (1+n))=1+sl+Q (1+n) by omega] at hw;refine⟨⟨fun a h1 h2=>?_,?_,fun a h1 h2=>?_⟩,fun i hi=>?_⟩
  · rw[hb,if_neg Om];exact h.ind.le a h1 h2
  · rw[hb,if_neg Om];exact h.ind.top
  · rw[hb,if_neg Om,hb,if_neg Om];exact h.ind.PV a h1 h2
  · rw[hb (1+sl+Q (1+i)),if_neg Om,hb];by_cases e:i=n
    · rw[e,if_pos rfl,hw]
    · rw[if_neg Om];exact h.leaf i Om
theorem Ww (h:uj N sl (N-1) 0 0 (N-2) 0 B B (cZ Z0) Q) (hd:LfD Z sl (N-1) N Q) (hN:2≤N∧N≤256) (mX:∀i,i<N→1≤cZ Z0 (1+i)) (hT:sm (fun i=>cZ Z0 (1+i)) N<524288):
    PZ (fun i=>bZ Z (1+i)) (bZ Z (1+(N-1))) N∧bZ Z (1+(N-1))≤40:=by
  have hm:1≤N-1:=Om;have h':Tr N (fun i=>cZ Z0 (1+i)) (N-1) 0 0 (N-1-1) 0 B B (fun a=>cZ Z0 (1+sl+a)) (fun i=>Q (1+i)) (fun a=>Q (1+sl+a)):=by
    rw[show N-1-1=N-2 by omega];exact h
  have hD:KW N (N-1) (fun i=>Q (1+i)) (fun a=>Q (1+sl+a)) (fun a=>bZ Z (1+sl+a)) (fun i=>bZ Z (1+i)):=⟨hd.ind.top,fun a ha=>hd.ind.PV a (Nat.zero_le _) ha,fun i hi=>hd.leaf i hi⟩;have Lv:∀i j,i≤j→j<N→bZ Z (1+i)≤bZ Z (1+j):=fun i j a b=>hD.mono h' hm a b
  have aef:=Tr.root h' hm;have hI:∀a,a<N-1→bZ Z (1+sl+a)≤300:=fun a ha=>by have:=hd.ind.le a (Nat.zero_le _) ha;omega
  have hL:∀i,i<N→bZ Z (1+i)≤300:=fun i hi=>by have:=aec Z (1+i);omega
  have hk:=hD.iw h' hm hL hI;refine⟨⟨hN,Lv,fun i hi=>⟨by rw[hd.leaf i hi];omega,Lv i (N-1) Om Om⟩,rfl,?_⟩,?_⟩
  · have hl:=hL (N-1) Om;have e:sm (fun i=>2^(300-bZ Z (1+(N-1)))*2^(bZ Z (1+(N-1))-bZ Z (1+i))) N=2^300:=by
      rw[←hk];refine cg fun i hi=>?_
      have:=Lv i (N-1) Om Om;rw[←Nat.pow_add];congr 1;omega
    rw[Be] at e;have e2:2^300=2^(300-bZ Z (1+(N-1)))*2^bZ Z (1+(N-1)):=by rw[←Nat.pow_add];congr 1;omega
    rw[e2] at e;exact Nat.eq_of_mul_eq_mul_left (Nat.two_pow_pos _) e
  · have qh:=hD.low h' hm (i:=N-1) Om;have hc:=mX (N-1) Om;have h1:2^(bZ Z (1+(N-1))/2)≤2^(bZ Z (1+(N-1))/2)*cZ Z0 (1+(N-1)):=Nat.le_mul_of_pos_right _ hc;have h2:2^(bZ Z (1+(N-1))/2)<2^19:=by
      have:(2:Nat)^19=524288:=rfl;have h9:cZ Z0 (1+sl+(N-1-1))=sm (fun i=>cZ Z0 (1+i)) N:=aef;have h8:2^(bZ Z (1+(N-1))/2)*cZ Z0 (1+(N-1))≤cZ Z0 (1+sl+(N-1-1)):=qh;omega
    have h3:bZ Z (1+(N-1))/2<19:=by
      apply Classical.byContradiction;intro hn;have:=Nat.pow_le_pow_right (n:=2) Om (show 19≤bZ Z (1+(N-1))/2 by omega);omega
    omega
end
theorem RS {n:Nat} {s:Nat→Nat} (hr:∀i,i<n→s i<n) (hs:∀x,x<n→∃i,i<n∧s i=x) {i j:Nat} (hi:i<n) (hj:j<n) (e:s i=s j):i=j:=by
  have hc:∀x,∃i,x<n→i<n∧s i=x:=fun x=>by
    by_cases hx:x<n
    · obtain⟨i,h1,h2⟩:=hs x hx;exact⟨i,fun _=>⟨h1,h2⟩⟩
    · exact⟨0,fun h=>(hx h).elim⟩
  have hg:∀x,x<n→Classical.choose (hc x)<n∧s (Classical.choose (hc x))=x:=fun x hx=>Classical.choose_spec (hc x) hx
  generalize hgd:(fun x=>Classical.choose (hc x))=g at*;have V7:∀x,x<n→g x<n∧s (g x)=x:=fun x hx=>by rw[←hgd];exact hg x hx
  have him:∀i,i<n→∃x,x<n∧g x=i:=fun i hi=>by
    have h1:=Bj (n:=n) (g:=g) (fun x hx=>(V7 x hx).1) (fun x y hx hy h=>by rw[←(V7 x hx).2, ←(V7 y hy).2,h]) (fun z=>if z=i then 1 else 0);rw[yc hi] at h1;obtain⟨x,hx,uY⟩:=G0 (W:=fun x=>if g x=i then 1 else 0) (n:=n) (by rw[h1];decide);refine⟨x,hx,?_⟩;apply Classical.byContradiction;intro hn;simp[hn] at uY
  obtain⟨x,hx,ex⟩:=him i hi;obtain⟨y,hy,ey⟩:=him j hj;have a:=(V7 x hx).2;have b:=(V7 y hy).2;rw[ex] at a;rw[ey] at b;rw[←ex, ←ey, ←a, ←b,e]
def fC (c:Nat × Nat):List Value:=[.int .u16 ((c.1:Nat):Int),.int .u8 ((c.2:Nat):Int)]
theorem jU (c:Nat × Nat):(fC c).length=2:=rfl
theorem RT (n:Nat):(List.replicate n ([.int .u16 ((0:Nat):Int),.int .u8 ((0:Nat):Int)]:List Value)).flatten=rows fC (List.replicate n (0,0)):=by
  induction n with
  |zero=>rfl
  |succ n ih=>simp only[List.replicate_succ,List.flatten_cons,rows,List.flatMap_cons] at ih ⊢;rw[ih];rfl
theorem Wx {N S sl M mb:Nat} (h1:N≤S) (h2:N≤sl) (h3:N≤256) (h4:2≤sl) (hb:mb=av S∨mb=av (sl-1)+1) (hM:mb≤M∨M=11):N≤2^M:=by
  rcases hM with hM|rfl
  · have h5:2^mb≤2^M:=Nat.pow_le_pow_right Om hM;rcases hb with rfl|rfl
    · have:=jd S;omega
    · have:=jd (sl-1);rw[Nat.pow_succ] at h5;omega
  · omega
structure gE (CN:List Nat) (T:List (Nat × Nat)) (sl R:Nat):Prop where
  zero:∀x,x<sl→CN.getD x 0=0→(T.getD x (0,0)).2=0
  some:∀x,x<sl→CN.getD x 0≠0→1≤(T.getD x (0,0)).2∧(T.getD x (0,0)).2≤R
  sum:sm (fun x=>if (T.getD x (0,0)).2=0 then 0 else 2^(R-(T.getD x (0,0)).2)) sl=2^R
  top:∃x,x<sl∧(T.getD x (0,0)).2=R
structure Hand (Z:List Nat) (T:List (Nat × Nat)) (sl k:Nat):Prop where
  len:T.length=256
  set:∀i,i<k→(T.getD (sZ Z (1+i)) (0,0)).2=bZ Z (1+i)
  zero:∀x,(∀i,i<k→sZ Z (1+i)≠x)→(T.getD x (0,0)).2=0
theorem oh {T:List (Nat × Nat)} {i j:Nat} {v:Nat × Nat} (h:i<T.length):(T.set i v).getD j (0,0)=if i=j then v else T.getD j (0,0):=by
  simp only[List.getD_eq_getElem?_getD,List.getElem?_set];split
  · rename_i e;subst e;simp[h]
  · rfl
theorem Hand.begin (Z:List Nat) (sl:Nat):Hand Z (List.replicate 256 (0,0)) sl 0:=⟨List.length_replicate,fun i h=>Om,fun x _=>by
  rw[List.getD_eq_getElem?_getD,List.getElem?_replicate];split<;>rfl⟩
section
variable {CN Z Z0:List Nat} {T:List (Nat × Nat)} {sl k N R:Nat}
theorem zi.al0 (hs:zi CN Z0 sl) {i j:Nat} (hi:i<sl) (hj:j<sl) (e:sZ Z0 (1+i)=sZ Z0 (1+j)):i=j:=
  RS (s:=fun i=>sZ Z0 (1+i)) (fun i hi=>by obtain⟨x,h1,_,h2⟩:=hs.Bg i hi;show sZ Z0 (1+i)<sl;omega) (fun x hx=>by obtain⟨i,h1,_,h2⟩:=hs.Lt x hx;exact⟨i,h1,h2⟩) hi hj e
theorem Hand.step (h:Hand Z T sl k) (hs:zi CN Z0 sl) (hy:∀i,sZ Z i=sZ Z0 i) (hk:k<sl) (kL:sl≤256) {a:Nat}:Hand Z (T.set (sZ Z (1+k)) (a,bZ Z (1+k))) sl (k+1):=by
  have hl:=h.len;obtain⟨x,x1,_,x2⟩:=hs.Bg k hk;have hx:sZ Z (1+k)<256:=aeb _ _;refine⟨by simp[hl],fun i hi=>?_,fun y hy2=>?_⟩
  · rw[oh Om];by_cases e:i=k
    · rw[e,if_pos rfl]
    · rw[if_neg (fun e2=>e (by rw[hy,hy] at e2;exact(hs.al0 hk Om e2).symm))];exact h.set i Om
  · rw[oh Om,if_neg (hy2 k Om)];exact h.zero y fun i hi=>hy2 i Om
theorem Hand.fin (h:Hand Z T sl N) (hs:zi CN Z0 sl) (hc:∀i,i<N→cZ Z0 (1+i)≠0) (hz:∀i,N≤i→i<sl→cZ Z0 (1+i)=0) (hy:∀i,sZ Z i=sZ Z0 i) (hN:N≤sl) (hw:Whl Z N R):gE CN T sl R:=by
  have EU:∀i,i<sl→∃x,x<sl∧sZ Z (1+i)=x∧cZ Z0 (1+i)=CN.getD x 0:=fun i hi=>by
    obtain⟨x,a,b,c⟩:=hs.Bg i hi;exact⟨x,a,by rw[hy];exact c,b⟩
  have hon:∀x,x<sl→∃i,i<sl∧sZ Z (1+i)=x∧cZ Z0 (1+i)=CN.getD x 0:=fun x hx=>by
    obtain⟨i,a,b,c⟩:=hs.Lt x hx;exact⟨i,a,by rw[hy];exact c,b⟩
  have hzero:∀x,x<sl→CN.getD x 0=0→(T.getD x (0,0)).2=0:=fun x hx h0=>h.zero x fun i hi e=>by
    obtain⟨y,a,b,c⟩:=EU i Om;rw[e] at b;subst b;exact hc i hi (by rw[c,h0])
  have Lw:∀i,i<N→(T.getD (sZ Z (1+i)) (0,0)).2=bZ Z (1+i):=h.set;refine⟨hzero,fun x hx h0=>?_,?_,?_⟩
  · obtain⟨i,a,b,c⟩:=hon x hx;have hiN:i<N:=by
      apply Classical.byContradiction;intro hn;exact h0 (by rw[←c];exact hz i Om a)
    rw[←b,Lw i hiN];exact hw.s7 i hiN
  · have e1:=Bk (n:=sl) (P:=fun i=>if i<N then 2^(R-bZ Z (1+i)) else 0) (Q:=fun x=>if (T.getD x (0,0)).2=0 then 0 else 2^(R-(T.getD x (0,0)).2)) (s:=fun i=>sZ Z (1+i)) (fun x hx=>by obtain⟨i,a,b,_⟩:=hon x hx;exact⟨i,a,b⟩) (fun i hi=>by
      show(if i<N then 2^(R-bZ Z (1+i)) else 0)=if (T.getD (sZ Z (1+i)) (0,0)).2=0 then 0 else 2^(R-(T.getD (sZ Z (1+i)) (0,0)).2)
      by_cases e:i<N
      · have:=hw.s7 i e;rw[if_pos e,Lw i e,if_neg Om]
      · obtain⟨y,a,b,c⟩:=EU i hi;rw[if_neg e,if_pos];rw[b];exact hzero y a (by rw[←c];exact hz i Om hi))
    rw[e1, ←hw.sum];have e2:sl=N+(sl-N):=Om;rw[e2,vt];have e3:sm (fun j=>(fun i=>if i<N then 2^(R-bZ Z (1+i)) else 0) (N+j)) (sl-N)=0:=by
      have:sm (fun j=>(fun i=>if i<N then 2^(R-bZ Z (1+i)) else 0) (N+j)) (sl-N)=sm (fun _=>0) (sl-N):=cg fun j hj=>by
        show(if N+j<N then _ else 0)=0;rw[if_neg Om]
      rw[this,gP,Nat.mul_zero]
    rw[e3,Nat.add_zero];exact cg fun i hi=>by rw[if_pos hi]
  · obtain⟨i,hi,he⟩:=hw.top;obtain⟨x,a,b,c⟩:=EU i Om;exact⟨x,a,by rw[←b,Lw i hi,he]⟩
theorem gE.val (h:gE CN T sl R) {n v:Nat} (hn:n<T.length):gE CN (T.set n (v,(T.getD n (0,0)).2)) sl R:=by
  have e:∀x,((T.set n (v,(T.getD n (0,0)).2)).getD x (0,0)).2=(T.getD x (0,0)).2:=fun x=>by
    rw[oh hn];split
    · rename_i e;subst e;rfl
    · rfl
  exact⟨fun x hx h0=>by rw[e];exact h.zero x hx h0,fun x hx h0=>by rw[e];exact h.some x hx h0,by simp only[e];exact h.sum,by obtain⟨x,a,b⟩:=h.top;exact⟨x,a,by rw[e];exact b⟩⟩
theorem zi.more (hs:zi CN Z0 sl) {x:Nat} (hx:x<sl) (h0:CN.getD x 0≠0) {r:Nat} (hr:∀i,r<i→i<sl→cZ Z0 (1+i)=0):∃i,i≤r∧i<sl∧sZ Z0 (1+i)=x∧cZ Z0 (1+i)≠0:=by
  obtain⟨i,a,b,c⟩:=hs.Lt x hx;refine⟨i,?_,a,c,by rw[b];exact h0⟩;apply Classical.byContradiction;intro hn;exact h0 (by rw[←b];exact hr i Om a)
theorem zi.pos (hs:zi CN Z0 sl) {r:Nat} (hr:r<sl) (h0:cZ Z0 (1+r)≠0):∀i,i<r+1→1≤cZ Z0 (1+i):=fun i hi=>by
  have:=hs.nR i r Om hr;omega
theorem zi.total (hs:zi CN Z0 sl):sm (fun i=>cZ Z0 (1+i)) sl=sm (pH CN) sl:=by
  refine(Bk (n:=sl) (P:=fun i=>cZ Z0 (1+i)) (Q:=pH CN) (s:=fun i=>sZ Z0 (1+i)) (fun x hx=>?_) fun i hi=>?_).symm
  · obtain⟨i,a,b,c⟩:=hs.Lt x hx;exact⟨i,a,c⟩
  · obtain⟨x,a,b,c⟩:=hs.Bg i hi;show cZ Z0 (1+i)=CN.getD (sZ Z0 (1+i)) 0;rw[c,b]
end
theorem Hd {W:Nat→Nat}:∀{n:Nat},(∀i,i<n→1≤W i)→n≤sm W n
  |0,_=>Nat.zero_le _
  |n+1,h=>by
    have:=Hd (W:=W) (n:=n) fun i hi=>h i Om
    have:=h n Om;simp only[sm];omega
section
variable {CN Z0 Z:List Nat} {sl r m u c B:Nat} {Q:Nat→Nat}
theorem zi.back (hs:zi CN Z0 sl) {x:Nat} (hx:x<sl) (h0:CN.getD x 0≠0) (hr:∀i,r<i→i<sl→cZ Z0 (1+i)=0) (hz:cZ Z0 (1+r)=0):1≤r:=by
  obtain⟨i,a,b,c,d⟩:=hs.more hx h0 hr;apply Classical.byContradiction;intro hn;have:i=r:=Om;rw[this] at d;exact d hz
theorem zi.two (hs:zi CN Z0 sl) {x y:Nat} (hx:x<sl) (hy:y<sl) (Bn:x≠y) (h0:CN.getD x 0≠0) (h1:CN.getD y 0≠0) (hr:∀i,r<i→i<sl→cZ Z0 (1+i)=0):1≤r:=by
  obtain⟨i,a,b,c,d⟩:=hs.more hx h0 hr;obtain⟨j,a',b',c',d'⟩:=hs.more hy h1 hr;apply Classical.byContradiction;intro hn;have:i=j:=Om;rw[this,c'] at c;exact Bn c.symm
theorem TW.first (hs:zi CN Z0 sl) (hr:r<sl) (h1:1≤r) (hl:Z0.length=513) (kL:sl≤256) {v:Nat} (hv:v=cZ Z0 (1+r)+cZ Z0 (1+(r-1))) (y':v<4294967296) {Z1 Z2 Z3:List Nat}
    (RQ:Z1=Z0.set (1+sl) (Ci (Z0.getD (1+sl) 0) v)) (RR:Z2=Z1.set (1+r) (Ak (Z1.getD (1+r) 0) sl)) (hZ3:Z3=Z2.set (1+(r-1)) (Ak (Z2.getD (1+(r-1)) 0) sl)):
    ∃B Q,TW Z0 Z3 (r+1) sl 1 (r-1) 0 B Q:=by
  have hb:=TW.begin (N:=r+1) hs Om;have l1:=hb.tr.leaf Om Om Om (.inl rfl);have l2:=l1.leaf Om Om Om (.inl rfl);have e1:r+1=1+r:=Om;have e2:r+1-1=1+(r-1):=Om;have e3:r+1-1-1=r-1:=Om;rw[e3,e2,e1,Nat.zero_add,Nat.zero_add] at l2;rw[e1] at hb;have hn:=hb.next (k1:=1+r) (k2:=1+(r-1)) l2 Om (fun j hj=>by unfold Fi at hj ⊢;omega) Om Om Om hv y' Om Om RQ RR hZ3;rw[e1];exact⟨_,_,hn.1⟩
def Pk1 (Z:List Nat) (N sl m u c B:Nat) (Q:Nat→Nat) (x u1 c1:Nat):Prop:=
  uj N sl m 1 u1 c1 (cZ Z (x+1)) B (cZ Z (x+1)) (cZ Z) (fun j=>if j=x+1 then m else Q j)∧x+1<1+sl+m∧∀j,Fi N sl u1 c1 j→j=x+1∨Fi N sl u c j
def Pk2 (Z:List Nat) (N sl m u c B:Nat) (Q:Nat→Nat) (x y u2 c2:Nat):Prop:=
  uj N sl m 2 u2 c2 (cZ Z (x+1)+cZ Z (y+1)) B (cZ Z (y+1)) (cZ Z) (fun j=>if j=y+1 then m else if j=x+1 then m else Q j)∧y+1<1+sl+m∧∀j,Fi N sl u2 c2 j→j=x+1∨j=y+1∨Fi N sl u c j
theorem TW.pick {N:Nat} (h:TW Z0 Z N sl m u c B Q) (hN:N≤sl) (hm:m+1<N) (hb:cZ Z 0=2147483648) (hf:∀a,m≤a→a+1<N→cZ Z (1+sl+a)=1073741824) (hK:sm (fun i=>cZ Z (1+i)) N<1073741824):
    (cZ Z u<cZ Z (1+sl+c)→1≤u∧Pk1 Z N sl m u c B Q (u-1) (u-1) c)∧(¬cZ Z u<cZ Z (1+sl+c)→c<m∧Pk1 Z N sl m u c B Q (sl+c) u (c+1)):=by
  have hn:=h.tr.num;obtain⟨p1,p2⟩:=h.tr.pick hN Om hm hb hf hK;refine⟨fun h1=>?_,fun h1=>?_⟩
  · obtain⟨a,b⟩:=p1 h1;rw[Nat.zero_add (cZ Z u)] at b;refine⟨a,?_,Om,fun j hj=>by unfold Fi at hj ⊢;omega⟩;rw[show u-1+1=u by omega];exact b
  · obtain⟨a,b⟩:=p2 h1;rw[Nat.zero_add (cZ Z (1+sl+c))] at b;refine⟨a,?_,Om,fun j hj=>by unfold Fi at hj ⊢;omega⟩;rw[show sl+c+1=1+sl+c by omega];exact b
theorem Pk1.pick {N x u1 c1:Nat} (h:Pk1 Z N sl m u c B Q x u1 c1) (hN:N≤sl) (hm:m+1<N) (hb:cZ Z 0=2147483648) (hf:∀a,m≤a→a+1<N→cZ Z (1+sl+a)=1073741824) (hK:sm (fun i=>cZ Z (1+i)) N<1073741824):
    (cZ Z u1<cZ Z (1+sl+c1)→1≤u1∧Pk2 Z N sl m u c B Q x (u1-1) (u1-1) c1)∧(¬cZ Z u1<cZ Z (1+sl+c1)→c1<m∧Pk2 Z N sl m u c B Q x (sl+c1) u1 (c1+1)):=by
  obtain⟨h1,h2,h3⟩:=h;have hn:=h1.num;obtain⟨p1,p2⟩:=h1.pick hN Om hm hb hf hK;refine⟨fun h4=>?_,fun h4=>?_⟩
  · obtain⟨a,b⟩:=p1 h4;refine⟨a,?_,Om,fun j hj=>?_⟩
    · rw[show u1-1+1=u1 by omega];exact b
    · have:j=u1∨Fi N sl u1 c1 j:=by unfold Fi at hj ⊢;omega
      rcases this with h9|h9
      · right;left;omega
      · rcases h3 j h9 with h8|h8
        · exact .inl h8
        · exact .inr (.inr h8)
  · obtain⟨a,b⟩:=p2 h4;refine⟨a,?_,Om,fun j hj=>?_⟩
    · rw[show sl+c1+1=1+sl+c1 by omega];exact b
    · have:j=sl+c1+1∨Fi N sl u1 c1 j:=by unfold Fi at hj ⊢;omega
      rcases this with h9|h9
      · right;left;exact h9
      · rcases h3 j h9 with h8|h8
        · exact .inl h8
        · exact .inr (.inr h8)
theorem Pk2.small {N x y u2 c2:Nat} (h:Pk2 Z N sl m u c B Q x y u2 c2):cZ Z (x+1)+cZ Z (y+1)≤sm (fun i=>cZ Z (1+i)) N:=by
  have ht:=Tr.iy h.1;have hn:=h.1.num;have h2:=mH (W:=fun a=>cZ Z (1+sl+a)) (show c2≤m by omega);have h3:sm (fun i=>cZ Z (1+i)) u2+sm (fun a=>cZ Z (1+sl+a)) m+(cZ Z (x+1)+cZ Z (y+1))=sm (fun i=>cZ Z (1+i)) N+sm (fun a=>cZ Z (1+sl+a)) c2:=ht;omega
structure TE (Z:List Nat) (sl r B:Nat) (Q:Nat→Nat):Prop where
  tr:uj (r+1) sl r 0 0 (r-1) 0 B B (cZ Z) Q
  qi:∀a,a+1<r→a<Q (1+sl+a)∧Q (1+sl+a)<r
  ql:∀i,i<r+1→Q (1+i)<r
  pi:∀a,a+1<r→pZ Z (1+sl+a)=sl+Q (1+sl+a)
  pl:∀i,i<r+1→pZ Z (1+i)=sl+Q (1+i)
theorem TW.end_ (h:TW Z0 Z (r+1) sl m u c B Q) (hm:m=r) (h1:1≤r) (hr:r<sl):TE Z sl r B Q:=by
  subst hm;obtain⟨e1,e2⟩:=Tr.fin h.tr rfl h1;have e3:c=m-1:=Om;subst e1;subst e3;refine⟨h.tr,fun a ha=>?_,fun i hi=>?_,fun a ha=>h.par _ (.inr ⟨Om,Om⟩),fun i hi=>h.par _ (.inl ⟨Om,Om⟩)⟩
  · have:=Tr.pi h.tr a Om;exact⟨this.1,this.2.2 rfl⟩
  · exact(Tr.pl h.tr i (Nat.zero_le _) hi).2 rfl
end
theorem gE.le {CN:List Nat} {T:List (Nat × Nat)} {sl R x:Nat} (h:gE CN T sl R) (hx:x<sl):(T.getD x (0,0)).2≤R:=by
  by_cases e:CN.getD x 0=0
  · rw[h.zero x hx e];exact Nat.zero_le _
  · exact(h.some x hx e).2
theorem Lx {V:List Nat} {b k v:Nat} (h:∀i,V.getD i 0≤b) (hk:k<V.length) (hv:v≤b):∀i,(V.set k v).getD i 0≤b:=fun i=>by
  rw[aM hk];split
  · exact hv
  · exact h i
theorem He {V:List Nat} {b k v:Nat} (h:∀i,V.getD i 0≤b) (hk:k<V.length) (hv:v≤b+1):∀i,(V.set k v).getD i 0≤b+1:=Lx (fun i=>Nat.le_succ_of_le (h i)) hk hv
theorem w6 {W:Nat→Nat} {a n:Nat} (h:a≤n) (hz:∀x,a≤x→x<n→W x=0):sm W n=sm W a:=by
  have e:n=a+(n-a):=Om;rw[e,vt];have:sm (fun j=>W (a+j)) (n-a)=sm (fun _=>0) (n-a):=cg fun j hj=>hz _ Om Om
  rw[this,gP,Nat.mul_zero,Nat.add_zero]
theorem Bz {W:Nat→Nat} {i j:Nat} (h:i<j):∀{n:Nat},j<n→W i+W j≤sm W n
  |0,h1=>by omega
  |n+1,h1=>by
    simp only[sm];by_cases e:j=n
    · subst e;have:=qu (W:=W) h;omega
    · have:=Bz (W:=W) h (n:=n) Om;omega
theorem um {W:Nat→Nat} {i j n:Nat} (h:i≠j) (hi:i<n) (hj:j<n):W i+W j≤sm W n:=by
  rcases Nat.lt_or_gt_of_ne h with h1|h1
  · exact Bz h1 hj
  · have:=Bz (W:=W) h1 hi;omega
theorem Wy {W:Nat→Nat} {a b n z:Nat} (Ch:a≠b) (ha:a<n) (hb:b<n) (h1:W a≠0) (h2:W b≠0) (hz:z<n):W z+1≤sm W n:=by
  by_cases e:z=a
  · have:=um (W:=W) Ch ha hb;rw[e];omega
  · have:=um (W:=W) e hz ha;omega
structure uo (CN:List Nat) (i iy mx sy:Nat):Prop where
  Wz:iy=sm (pH CN) i
  mb:∀x,x<i→CN.getD x 0≤mx
  me:mx=0∨∃x,x<i∧CN.getD x 0=mx
  sl:sy≤i
  sz:∀x,sy≤x→x<i→CN.getD x 0=0
  se:sy=0∨CN.getD (sy-1) 0≠0
section
variable {CN C2:List Nat} {i iy mx sy sh nt nm:Nat}
theorem uo.begin:uo CN 0 0 0 0:=⟨rfl,fun x h=>Om,.inl rfl,Nat.le_refl _,fun x h1 h2=>Om,.inl rfl⟩
theorem uo.step (h:uo CN i iy mx sy) {mx' sy':Nat} (hm:(mx<CN.getD i 0∧mx'=CN.getD i 0)∨(CN.getD i 0≤mx∧mx'=mx)) (hs:(CN.getD i 0≠0∧sy'=i+1)∨(CN.getD i 0=0∧sy'=sy)):uo CN (i+1) (iy+CN.getD i 0) mx' sy':=by
  have h1:=h.sl;refine⟨by rw[h.Wz];rfl,fun x hx=>?_,?_,Om,fun x h2 h3=>?_,?_⟩
  · by_cases e:x=i
    · rw[e];omega
    · have:=h.mb x Om;omega
  · rcases hm with ⟨a,b⟩|⟨a,b⟩
    · exact .inr ⟨i,Om,b.symm⟩
    · rcases h.me with c|⟨x,c,d⟩
      · exact .inl Om
      · exact .inr ⟨x,Om,Om⟩
  · by_cases e:x=i
    · rw[e];omega
    · exact h.sz x Om Om
  · rcases hs with ⟨a,b⟩|⟨a,b⟩
    · right;rw[b,Nat.add_sub_cancel];exact a
    · rw[b];exact h.se
theorem uo.below (h:uo CN 256 iy mx sy) {a b:Nat} (Ch:a≠b) (ha:a<256) (hb:b<256) (h1:CN.getD a 0≠0) (h2:CN.getD b 0≠0):mx+1≤iy∧2≤sy∧a<sy∧b<sy∧2≤iy:=by
  have ea:a<sy:=by
    apply Classical.byContradiction;intro hn;exact h1 (h.sz a Om ha)
  have eb:b<sy:=by
    apply Classical.byContradiction;intro hn;exact h2 (h.sz b Om hb)
  have hp:=um (W:=pH CN) Ch ha hb;rw[←h.Wz] at hp;have e1:pH CN a=CN.getD a 0:=rfl;have e2:pH CN b=CN.getD b 0:=rfl;refine⟨?_,Om,ea,eb,Om⟩;rcases h.me with c|⟨x,c,d⟩
  · omega
  · have:=Wy (W:=pH CN) Ch ha hb h1 h2 c;rw[←h.Wz] at this;have e3:pH CN x=CN.getD x 0:=rfl;omega
end
theorem Fj {xs:List Nat} {i n:Nat} (h:i<n):(xs.take n).getD i 0=xs.getD i 0:=by simp[List.getD_eq_getElem?_getD,List.getElem?_take,h]
theorem Di:∀xs:List Nat,iw xs=sm (fun i=>if xs.getD i 0=0 then 0 else 2^(11-xs.getD i 0)) xs.length
  |[]=>rfl
  |x::xs=>by
    rw[List.length_cons,lB,iw,Di xs]
    rfl
theorem Ly:∀xs:List Nat,nzc xs=sm (fun i=>if xs.getD i 0=0 then 0 else 1) xs.length
  |[]=>rfl
  |x::xs=>by
    rw[List.length_cons,lB,nzc,Ly xs]
    rfl
def jz (T:List (Nat × Nat)) (sl:Nat):List Nat:=(List.range 256).map fun x=>if x<sl then (T.getD x (0,0)).2 else 0
theorem gR {T:List (Nat × Nat)} {sl:Nat}:(jz T sl).length=256:=by simp[jz]
theorem fc {T:List (Nat × Nat)} {sl:Nat} (h:sl≤256) (x:Nat):(jz T sl).getD x 0=if x<sl then (T.getD x (0,0)).2 else 0:=by
  by_cases hx:x<256
  · simp[jz,List.getD_eq_getElem?_getD,List.getElem?_map,List.getElem?_range hx]
  · rw[if_neg Om,List.getD_eq_getElem?_getD,List.getElem?_eq_none (by rw[gR];omega)];rfl
def y5 (T:List (Nat × Nat)) (R x:Nat):Nat:=uV R (T.getD x (0,0)).2
section
variable {CN:List Nat} {T:List (Nat × Nat)} {sl R:Nat}
theorem gE.LA (h:gE CN T sl R) (kL:sl≤256):fm (jz T sl) R:=fun x hx=>by
  obtain⟨i,hi,e⟩:=List.mem_iff_getElem.1 hx;have e2:=fc (T:=T) kL i;rw[List.getD_eq_getElem?_getD,List.getElem?_eq_getElem hi,Option.getD_some,e] at e2;rw[e2];split
  · rename_i h2;exact h.le h2
  · omega
theorem gE.whole (h:gE CN T sl R) (kL:sl≤256) (hR:R≤11) {a b:Nat} (Ch:a≠b) (ha:a<sl) (hb:b<sl) (Jf:CN.getD a 0≠0) (LB:CN.getD b 0≠0):jn (jz T sl):=by
  refine⟨by rw[gR];exact Nat.le_refl _,fun x hx=>Nat.le_trans (h.LA kL x hx) hR,?_,?_⟩
  · rw[Di,gR,w6 (a:=sl) kL fun x h1 h2=>if_pos (by rw[fc kL,if_neg Om])];have e:sm (fun i=>if (jz T sl).getD i 0=0 then 0 else 2^(11-(jz T sl).getD i 0)) sl=sm (fun x=>2^(11-R)*(if (T.getD x (0,0)).2=0 then 0 else 2^(R-(T.getD x (0,0)).2))) sl:=cg fun x hx=>by
      have hl:=h.le hx;rw[fc kL,if_pos hx];split
      · rw[Nat.mul_zero]
      · rw[←Nat.pow_add,show 11-R+(R-(T.getD x (0,0)).2)=11-(T.getD x (0,0)).2 by omega]
    rw[e,Be,h.sum, ←Nat.pow_add,show 11-R+R=11 by omega]
  · rw[Ly,gR];have h1:=h.some a ha Jf;have h2:=h.some b hb LB;have:=um (W:=fun i=>if (jz T sl).getD i 0=0 then 0 else 1) (n:=256) Ch Om Om;simp only[fc kL,if_pos ha,if_pos hb] at this;rw[if_neg Om,if_neg Om] at this;simp only[fc kL] at this ⊢;omega
theorem gE.hw (h:gE CN T sl R) (kL:1≤sl∧sl≤256) (hl:CN.getD (sl-1) 0≠0):HW (jz T sl) R (sl-1):=by
  refine⟨h.LA kL.2,?_,by rw[gR];omega,?_,fun p hp=>?_⟩
  · obtain⟨x,h1,h2⟩:=h.top;exact⟨x,by rw[gR];omega,by rw[fc kL.2,if_pos h1,h2]⟩
  · have:=(h.some (sl-1) Om hl).1;rw[fc kL.2,if_pos Om];omega
  · rw[fc kL.2,if_neg Om]
theorem gE.has (h:gE CN T sl R) (kL:sl≤256) {x:Nat} (hx:x<sl) (h0:CN.getD x 0≠0):1≤(jz T sl).getD x 0∧(jz T sl).getD x 0≤R:=by
  rw[fc kL,if_pos hx];exact h.some x hx h0
theorem LC {X:List Nat} {la:Nat} (kL:sl≤256) (hla:la+1=sl) (hX:la≤X.length) (h:∀x,x<la→X.getD x 0=y5 T R x):cU (jz T sl) R la=X.take la:=by
  have h1:=kY (ls:=jz T sl) (L:=R) (last:=la) (by rw[gR];omega);refine qw (by rw[h1,List.length_take];omega) fun i hi=>?_
  rw[h1] at hi;rw[za (by rw[gR];omega) hi,fc kL,if_pos Om,Fj hi,h i hi]
  rfl
theorem yj (x:Nat):y5 T R x≤R:=by unfold y5 uV;split<;>omega
end
structure Cj (W:Nat→Nat) (H X:List Nat) (i:Nat):Prop where
  len:H.length=256
  get:∀v,H.getD v 0=sm (fun x=>if W x=v then 1 else 0) i
  xl:X.length=256
  xb:Bytes X
  xe:∀x,x<i→X.getD x 0=W x
theorem LD {W:Nat→Nat} {v:Nat}:∀{i:Nat},sm (fun x=>if W x=v then 1 else 0) i≤i
  |0=>Nat.le_refl _
  |i+1=>by
    have:=LD (W:=W) (v:=v) (i:=i);simp only[sm];split<;>omega
section
variable {W:Nat→Nat} {H X:List Nat} {i:Nat}
theorem Cj.begin (hx:X.length=256) (hb:Bytes X):Cj W (List.replicate 256 0) X 0:=⟨List.length_replicate,fun v=>by
  rw[List.getD_eq_getElem?_getD,List.getElem?_replicate];split<;>rfl,hx,hb,fun x h=>Om⟩
theorem Cj.step (h:Cj W H X i) (hi:i<256) (hw:W i<256):Cj W (H.set (W i) (H.getD (W i) 0+1)) (X.set i (W i)) (i+1):=by
  have hl:=h.len;have hx:=h.xl;refine⟨by simp[hl],fun v=>?_,by simp[hx],fun x Eh=>?_,fun x Eh=>?_⟩
  · rw[aM Om];simp only[sm];split
    · rename_i e;subst e;rw[h.get]
    · rw[h.get];rfl
  · rcases List.mem_or_eq_of_mem_set Eh with a|a
    · exact h.xb x a
    · omega
  · rw[aM Om];split
    · rename_i e;rw[e]
    · exact h.xe x Om
theorem Cj.le (h:Cj W H X i) (v:Nat):H.getD v 0≤i:=by rw[h.get];exact LD
theorem Cj.ge (h:Cj W H X i) {x:Nat} (hx:x<i):1≤H.getD (W x) 0:=by
  rw[h.get];have:=qu (W:=fun y=>if W y=W x then 1 else 0) hx;simp only[if_true] at this;exact this
theorem Cj.ex (h:Cj W H X i) {v:Nat} (hv:H.getD v 0≠0):∃x,x<i∧W x=v:=by
  rw[h.get] at hv;obtain⟨x,h1,h2⟩:=G0 hv;exact⟨x,h1,Classical.byContradiction fun e=>h2 (if_neg e)⟩
theorem Dj {n:Nat}:∀{i:Nat},(∀x,x<i→W x<n)→sm (fun v=>sm (fun x=>if W x=v then 1 else 0) i) n=i
  |0,_=>by
    have:=gP (k:=0) (n:=n);rw[Nat.mul_zero] at this;exact this
  |i+1,h=>by
    have h1:=Dj (n:=n) (i:=i) fun x hx=>h x Om
    have h2:=yc (v:=W i) (n:=n) (h i Om);have e:sm (fun v=>sm (fun x=>if W x=v then 1 else 0) (i+1)) n=sm (fun v=>sm (fun x=>if W x=v then 1 else 0) i+(if v=W i then 1 else 0)) n:=cg fun v _=>by
      simp only[sm];by_cases e:v=W i
      · rw[if_pos e,if_pos e.symm]
      · rw[if_neg e,if_neg fun h=>e h.symm]
    rw[e,wZ,h1,h2]
theorem Cj.sum (h:Cj W H X i) {n:Nat} (hw:∀x,x<i→W x<n):sm (pH H) n=i:=by
  rw[←Dj (W:=W) (n:=n) hw];exact cg fun v _=>h.get v
end
structure Jh (H:List Nat) (i mx mc:Nat):Prop where
  mi:mx≤i
  mb:∀j,j<i→H.getD j 0≤mc
  me:mc=0∨∃j,H.getD j 0=mc
  z:∀j,mx<j→j<i→H.getD j 0=0
  nz:(mx=0∧∀j,j<i→H.getD j 0=0)∨(mx<i∧H.getD mx 0≠0)
section
variable {W:Nat→Nat} {H X:List Nat} {i mx mc la:Nat}
theorem Jh.begin:Jh H 0 0 0:=⟨Nat.le_refl _,fun j h=>Om,.inl rfl,fun j _ h=>Om,.inl ⟨rfl,fun j h=>Om⟩⟩
theorem Jh.zero (h:Jh H i mx mc) (h0:H.getD i 0=0):Jh H (i+1) mx mc:=by
  have hm:=h.mi;refine⟨Om,fun j hj=>?_,h.me,fun j h1 h2=>?_,?_⟩
  · by_cases e:j=i
    · rw[e,h0];exact Nat.zero_le _
    · exact h.mb j Om
  · by_cases e:j=i
    · rw[e,h0]
    · exact h.z j h1 Om
  · rcases h.nz with ⟨a,b⟩|⟨a,b⟩
    · refine .inl ⟨a,fun j hj=>?_⟩;by_cases e:j=i
      · rw[e,h0]
      · exact b j Om
    · exact .inr ⟨Om,b⟩
theorem Jh.step (h:Jh H i mx mc) (h0:H.getD i 0≠0) {mc':Nat} (hm:(mc<H.getD i 0∧mc'=H.getD i 0)∨(H.getD i 0≤mc∧mc'=mc)):Jh H (i+1) i mc':=by
  refine⟨Om,fun j hj=>?_,?_,fun j h1 h2=>Om,.inr ⟨Om,h0⟩⟩
  · by_cases e:j=i
    · rw[e];omega
    · have:=h.mb j Om;omega
  · rcases hm with ⟨a,b⟩|⟨a,b⟩
    · exact .inr ⟨i,b.symm⟩
    · rw[b];exact h.me
theorem Jh.fin (h:Jh H 16 mx mc) (hs:Cj W H X la) (hw:∀x,W x≤11) (hla:1≤la):
    (1≤mc∧mc≤la)∧mx≤11∧sm (pH H) (mx+1)=la∧(∀j,H.getD j 0≤mc)∧H.getD mx 0≠0∧(∀s ∈ X.take la,s<mx+1∧H.getD s 0≠0):=by
  have g0:=hs.ge (x:=0) hla;have T5:=hw 0;have hb:=h.mb (W 0) Om;have T6:mx<16∧H.getD mx 0≠0:=by
    rcases h.nz with ⟨a,b⟩|h9
    · have:=b (W 0) Om;omega
    · exact h9
  have hz:∀v,v>11→H.getD v 0=0:=fun v hv=>Classical.byContradiction fun e=>by
    obtain⟨x,_,h2⟩:=hs.ex e;have:=hw x;omega
  have ui:mx≤11:=Classical.byContradiction fun e=>T6.2 (hz mx Om)
  have hwm:∀x,x<la→W x<mx+1:=fun x hx=>Classical.byContradiction fun e=>by
    have a:=hs.ge hx;have b:=h.z (W x) Om (by have:=hw x;omega);omega
  refine⟨⟨Om,?_⟩,ui,hs.sum hwm,fun j=>?_,T6.2,fun s HP=>?_⟩
  · rcases h.me with e|⟨j,e⟩
    · omega
    · rw[←e];exact hs.le j
  · by_cases e:j<16
    · exact h.mb j e
    · rw[hz j Om];exact Nat.zero_le _
  · have hxl:=hs.xl;obtain⟨k,hk,e⟩:=List.mem_iff_getElem.1 HP;have y8:k<la:=by rw[List.length_take] at hk;omega
    have e2:s=W k:=by
      rw[←hs.xe k y8, ←e];rw[List.getElem_take,List.getD_eq_getElem?_getD,List.getElem?_eq_getElem (by rw[List.length_take] at hk;omega)]
      rfl
    rw[e2];exact⟨hwm k y8,by have:=hs.ge y8;omega⟩
end
theorem Hg:∀(xs:List Nat) (a b:Nat),xs.length%2=0→nib (xs++[a,b])=nib xs++[a*16+b]
  |[],a,b,_=>rfl
  |[x],a,b,h=>by simp at h
  |x::y::r,a,b,h=>by
    simp only[List.cons_append,nib];rw[Hg r a b (by simp only[List.length_cons] at h;omega)]
theorem Hh:∀(xs:List Nat),xs.length%2=1→nib (xs++[0])=nib xs
  |[],h=>by simp at h
  |[x],h=>by simp[nib]
  |x::y::r,h=>by
    simp only[List.cons_append,nib];rw[Hh r (by simp only[List.length_cons] at h;omega)]
theorem yk {W P:List Nat} {i n:Nat} (hP:P=[n]++nib (W.take i)) (hi:i+1<W.length) (h:i%2=0):P++[W.getD i 0*16+W.getD (i+1) 0]=[n]++nib (W.take (i+2)):=by
  rw[fV (i:=i+1) hi,fV (i:=i) Om,List.append_assoc];show _=[n]++nib (W.take i++[W.getD i 0,W.getD (i+1) 0]);rw[Hg _ _ _ (by rw[List.length_take];omega),hP,List.append_assoc]
theorem LF {W P:List Nat} {i n la:Nat} (hP:P=[n]++nib (W.take i)) (hi:la≤i∧i≤la+1) (h:i%2=0) (hl:la<W.length) (h0:W.getD la 0=0):P=[n]++nib (W.take la):=by
  rcases Nat.lt_or_eq_of_le hi.1 with h1|h1
  · have e:i=la+1:=Om;rw[hP,e,fV hl,h0,Hh _ (by rw[List.length_take];omega)]
  · rw[hP,h1]
structure P3 (BW:List Nat) (R n:Nat):Prop where
  len:BW.length=12
  get:∀x,1≤x→x<n→BW.getD x 0=R+1-x
  z:BW.getD 0 0=0
theorem P3.begin {R:Nat}:P3 (List.replicate 12 0) R 1:=⟨List.length_replicate,fun x h1 h2=>Om,rfl⟩
theorem P3.step {BW:List Nat} {R n:Nat} (h:P3 BW R n) (h1:1≤n) (hn:n<12):P3 (BW.set n (R+1-n)) R (n+1):=by
  have hl:=h.len;refine⟨by simp[hl],fun x a b=>?_,?_⟩
  · rw[aM Om];split
    · rename_i e;rw[e]
    · exact h.get x a Om
  · rw[aM Om,if_neg Om];exact h.z
theorem P3.w {BW:List Nat} {R n x:Nat} (h:P3 BW R n) (hn:n=R+1) (hx:x≤R):BW.getD x 0=uV R x:=by
  unfold uV;split
  · rename_i e;rw[e];exact h.z
  · exact h.get x Om Om
theorem Ir {X:List Nat} {la v:Nat}:(X.set la v).take la=X.take la:=by rw[List.take_set,List.set_eq_of_length_le (by rw[List.length_take];omega)]
theorem LG {n i:Nat}:(List.replicate n 0).set i 0=List.replicate n 0:=by
  refine qw Oi fun j hj=>?_
  by_cases h:i<n
  · rw[aM Oz];split
    · rename_i e;rw[←e,List.getD_eq_getElem?_getD,List.getElem?_replicate];split<;>rfl
    · rfl
  · rw[List.set_eq_of_length_le Oz]
theorem LH {x:Nat} (h:x<128):128|||x=127+(x+1):=by
  have:=Nat.two_pow_add_eq_or_of_lt (i:=7) (b:=x) h 1;rw[show(2:Nat)^7*1=128 by decide] at this;omega
theorem w15 {BW:List Nat} {T:List (Nat × Nat)} {R x:Nat} (h:P3 BW R (R+1)) (hR:R≤11) (hx:(T.getD x (0,0)).2≤R):BW.getD (T.getD x (0,0)).2 0%16=y5 T R x:=by
  rw[h.w rfl hx];have:=yj (T:=T) (R:=R) x;unfold y5 at this;exact Nat.mod_eq_of_lt Om
theorem al1 {T:List (Nat × Nat)} {X Y:List Nat} {sl R:Nat} {ok:Bool} (hk:ok=true) (h:ok=true→∃L P,gK L P (X.take (sl-1)) Y∧2≤Y.length∧(5≤sl-1→L=5)) (kL:2≤sl∧sl≤256) (hX:X.length=256) (hW:∀x,x<sl-1→X.getD x 0=y5 T R x) (hl:Y.length<sl/2):mG (cU (jz T sl) R (sl-1)) ([Y.length]++Y):=by
  obtain⟨L,P,h1,h2,h3⟩:=h hk;have e:=h3 Om;subst e;rw[LC kL.2 Om Om hW];exact .inr ⟨P,Y,h1,Om,rfl⟩
theorem WA {T:List (Nat × Nat)} {X P:List Nat} {sl R n:Nat} (hP:P=[127+(sl-1)]++nib ((X.set (sl-1) 0).take n)) (hn:sl-1≤n∧n≤sl-1+1) (h2:n%2=0) (kL:2≤sl∧sl≤129) (hX:X.length=256) (hW:∀x,x<sl-1→X.getD x 0=y5 T R x):mG (cU (jz T sl) R (sl-1)) P:=by
  have h:=LF hP hn h2 Oz (by rw[aM Om,if_pos rfl]);rw[Ir] at h;rw[LC Om Om Om hW];refine .inl ⟨by rw[List.length_take];omega,?_⟩;rw[h,List.length_take,Nat.min_eq_left Om]
theorem Cj.x3 {T:List (Nat × Nat)} {R la:Nat} {H X:List Nat} (h:Cj (y5 T R) H X la) (hR:R≤11) (hl:la<256):∀x,x≤la→(X.set la 0).getD x 0≤11:=fun x hx=>by
  rw[aM (by rw[h.xl];omega)];split
  · omega
  · rw[h.xe x Om];exact Nat.le_trans (yj x) hR
theorem LI {b:Nat}:∀ls:List Nat,ls.count b=sm (fun x=>if ls.getD x 0=b then 1 else 0) ls.length
  |[]=>rfl
  |x::ls=>by
    rw[List.length_cons,lB,List.count_cons,LI ls];have:(if (x==b)=true then 1 else 0)=(if (x::ls).getD 0 0=b then 1 else 0):=by
      show _=if x=b then 1 else 0
      by_cases e:x=b
      · rw[if_pos e,if_pos (by rw[e];exact beq_self_eq_true b)]
      · rw[if_neg e,if_neg (by simpa using e)]
    rw[this];exact Nat.add_comm _ _
structure Cb (Z P:List Nat) (x:Nat):Prop where
  len:P.length=12
  get:∀b,b<12→P.getD b 0=sm (fun i=>if bZ Z (1+i)=b then 1 else 0) x
theorem Cb.begin {Z:List Nat}:Cb Z (List.replicate 12 0) 0:=⟨List.length_replicate,fun b _=>by rw[og];rfl⟩
theorem Cb.step {Z P:List Nat} {x b:Nat} (h:Cb Z P x) (hb:b=bZ Z (1+x)) (tS:b<12):Cb Z (P.set b (P.getD b 0+1)) (x+1):=by
  have hl:=h.len;refine⟨by simp[hl],fun c hc=>?_⟩;rw[aM Om];simp only[sm];split
  · rename_i e;subst e;rw[h.get b tS,if_pos hb.symm]
  · rename_i e;rw[h.get c hc,if_neg Om];rfl
def vst (c:Nat→Nat) (R:Nat):Nat→Nat
  |0=>0
  |d+1=>(vst c R d+c (R-d))/2
structure Vr (c:Nat→Nat) (V:List Nat) (R nq mn:Nat):Prop where
  len:V.length=16
  le:nq≤R
  mnE:mn=vst c R (R-nq)
  get:∀k,nq<k→k≤R→V.getD k 0=vst c R (R-k)
theorem Vr.begin {c:Nat→Nat} {R:Nat}:Vr c (List.replicate 16 0) R R 0:=⟨List.length_replicate,Nat.le_refl _,by rw[Nat.sub_self];rfl,fun k h1 h2=>Om⟩
theorem Vr.step {c:Nat→Nat} {V:List Nat} {R nq mn n:Nat} (h:Vr c V R nq mn) (h1:1≤nq) (hR:R≤11) (hn:n=c nq):Vr c (V.set nq mn) R (nq-1) ((mn+n)/2):=by
  have hl:=h.len;have hle:=h.le;refine⟨by simp[hl],Om,?_,fun k h2 h3=>?_⟩
  · rw[show R-(nq-1)=(R-nq)+1 by omega,vst,show R-(R-nq)=nq by omega,h.mnE,hn]
  · rw[aM Om];split
    · rename_i e;rw[h.mnE,e]
    · exact h.get k Om h3
theorem Hi {ls:List Nat} {R:Nat} {c:Nat→Nat} (hl:fm ls R) (hR:R≤11) (hc:∀b,1≤b→b≤R→ls.count b=c b):∀d,d≤R→vst c R d=zQ ls (R-d)
  |0,_=>by rw[Nat.sub_zero,wX hl hR];rfl
  |d+1,h=>by
    rw[vst,Hi hl hR hc d Om,show R-(d+1)=(R-d)-1 by omega,xR ls (m:=R-d) Om Om,hc (R-d) Om Om]
section
variable {CN Z Z0:List Nat} {T:List (Nat × Nat)} {sl N R:Nat}
theorem Hand.count (h:Hand Z T sl N) (hs:zi CN Z0 sl) (hL:gE CN T sl R) (hz:∀i,N≤i→i<sl→cZ Z0 (1+i)=0) (hy:∀i,sZ Z i=sZ Z0 i) (hN:N≤sl) (kL:sl≤256) {b:Nat} (hb:1≤b):(jz T sl).count b=sm (fun i=>if bZ Z (1+i)=b then 1 else 0) N:=by
  rw[LI,gR,w6 (a:=sl) kL fun x h1 h2=>if_neg (by rw[fc kL,if_neg Om];omega)];have e1:sm (fun x=>if (jz T sl).getD x 0=b then 1 else 0) sl=sm (fun x=>if (T.getD x (0,0)).2=b then 1 else 0) sl:=cg fun x hx=>by rw[fc kL,if_pos hx]
  rw[e1];have e2:=Bk (n:=sl) (P:=fun i=>if i<N then (if bZ Z (1+i)=b then 1 else 0) else 0) (Q:=fun x=>if (T.getD x (0,0)).2=b then 1 else 0) (s:=fun i=>sZ Z (1+i)) (fun x hx=>by
    obtain⟨i,a,_,d⟩:=hs.Lt x hx;exact⟨i,a,by rw[hy];exact d⟩) (fun i hi=>by
    show(if i<N then (if bZ Z (1+i)=b then 1 else 0) else 0)=if (T.getD (sZ Z (1+i)) (0,0)).2=b then 1 else 0
    by_cases e:i<N
    · rw[if_pos e,h.set i e]
    · obtain⟨y,a,d,f⟩:=hs.Bg i hi;rw[if_neg e,if_neg];rw[hy,f,hL.zero y a (by rw[←d];exact hz i Om hi)];omega)
  rw[e2,w6 (a:=N) hN fun x h1 h2=>if_neg Om];exact cg fun i hi=>if_pos hi
end
structure Vx (ls:List Nat) (T:List (Nat × Nat)) (V:List Nat) (sl R x:Nat):Prop where
  al2:T.length=256
  al3:V.length=16
  ln:∀y,y<sl→(T.getD y (0,0)).2=ls.getD y 0
  v:∀k,1≤k→k≤R→V.getD k 0=zQ ls k+(ls.take x).count k
  t:∀y,y<x→1≤ls.getD y 0→(T.getD y (0,0)).1=l4 ls y
section
variable {ls V:List Nat} {T:List (Nat × Nat)} {sl R x:Nat}
theorem Vx.step (h:Vx ls T V sl R x) (hx:x<sl) (kL:sl≤256) (RU:ls.length=256) (hR:R≤11) (hl:ls.getD x 0≤R):Vx ls (T.set x (V.getD ((T.getD x (0,0)).2%16) 0,(T.getD x (0,0)).2)) (V.set ((T.getD x (0,0)).2%16) (V.getD ((T.getD x (0,0)).2%16) 0+1)) sl R (x+1):=by
  have hT:=h.al2;have hV:=h.al3;have e:=h.ln x hx;have e16:(T.getD x (0,0)).2%16=ls.getD x 0:=by rw[e];exact Nat.mod_eq_of_lt Om
  rw[e16];refine⟨by simp[hT],by simp[hV],fun y hy=>?_,fun k h1 h2=>?_,fun y hy hy1=>?_⟩
  · rw[oh Om];split
    · rename_i e2;rw[←e2];exact e
    · exact h.ln y hy
  · rw[aM Om,jM Om];by_cases e2:ls.getD x 0=k
    · rw[if_pos e2,if_pos e2,e2,h.v k h1 h2];omega
    · rw[if_neg e2,if_neg e2,h.v k h1 h2];rfl
  · rw[oh Om];by_cases e2:x=y
    · subst e2;rw[if_pos rfl];exact h.v _ hy1 hl
    · rw[if_neg e2];exact h.t y Om hy1
theorem Vx.fin (h:Vx ls T V sl R sl) {T0:List (Nat × Nat)} (RU:ls=jz T0 sl) (kL:sl≤256):jz T sl=ls∧∀y,y<sl→1≤(T.getD y (0,0)).2→(T.getD y (0,0)).1=l4 (jz T sl) y:=by
  have e:jz T sl=ls:=by
    rw[RU];refine qw (by rw[gR,gR]) fun y hy=>?_
    rw[fc kL,fc kL];split
    · rename_i h2;have:=h.ln y h2;rw[RU,fc kL,if_pos h2] at this;exact this
    · rfl
  refine⟨e,fun y hy h1=>?_⟩;rw[e];exact h.t y hy (by rw[←h.ln y hy];exact h1)
end
theorem Vx.begin {ls V:List Nat} {T:List (Nat × Nat)} {sl R:Nat} {c:Nat→Nat} {m:Nat} (hV:Vr c V R 0 m) (hT:T.length=256) (RU:ls=jz T sl) (kL:sl≤256) (hl:fm ls R) (hR:R≤11) (hc:∀b,1≤b→b≤R→ls.count b=c b):Vx ls T V sl R 0:=
  ⟨hT,hV.len,fun y hy=>by rw[RU,fc kL,if_pos hy],fun k h1 h2=>by rw[hV.get k Om h2,Hi hl hR hc (R-k) Om,show R-(R-k)=k by omega,List.take_zero];rfl,fun y hy=>Om⟩
def Hj (T:List (Nat × Nat)) (sl:Nat):Prop:=∀y,y<sl→1≤(T.getD y (0,0)).2→(T.getD y (0,0)).1=l4 (jz T sl) y
section
variable {P:Program} {K:Kx} {Q:Exit→Act→World→Prop} {ρ:ba} {l r:List aU} {o:Oper} {x y:Operand} {t n m cap q d sz e:Nat} {k:IntKind}
end
section
variable {P:Program} {fn:Func} {ee:Value→List aU→Prop} {l0 l r:List aU} {w0:World} {n:Nat} {p rest:List aU} {ρ:ba}
theorem T8 {a ty sz q:Nat} {sg:aU} {vs:List Value} (is:List Nat) (i j:Nat) (u':fn.results= #[.cell a ty]) (hva:look a ρ=some (.pointer (some ⟨sg.b,q,none⟩))) (hs:nthS i l=some sg) (hP:fS P ty=some true) (hz:cY P ty=some sz) (hq:q=sg.o+j) (hv:(sg.cs.drop j).take sz=vs) (hn:vs.length=sz) (hp:pickS is l=some (p,rest)) (hPo:ee (.agg vs.toArray) p):
    GQ ⟨n,l0,w0⟩ (bodyPost P fn (Ends ee l0 r w0)) .ret ρ l r:=
  fun ac w ha=>⟨ha.defers,_,by
    have ks:=ha.st.hl sg (ed _ _ _ hs);have e:=A5 (P:=P) (w:=w) (b:=sg.b) (q:=q) (vs:=vs) hP (by rw[hz,hn]) (fun i hi=>by
      subst hq;rw[show sg.o+j+i=sg.o+(j+i) by omega];exact ks.1 (j+i) _ (xG hv hn Om))
    simp[results,u',ha.fr _ _ hva,asAddr,e],oS (ha.pick is hp) hPo⟩
end
theorem Is {n:Nat} (h:n<64):(n&&&18446744073709551608)&&&63=8*(n/8):=by
  have:∀m:Fin 64,(m.val&&&18446744073709551608)&&&63=8*(m.val/8):=Od;exact this ⟨n,h⟩
theorem sG {x y k b:Nat} (h:x<2^k) (h2:y<2^b):x+y*2^k<2^(k+b):=by
  have:(y+1)*2^k≤2^b*2^k:=Nat.mul_le_mul_right _ h2;rw[Nat.add_mul,Nat.one_mul] at this;have e:2^(k+b)=2^b*2^k:=by rw[Nat.add_comm k b,Nat.pow_add]
  rw[e];omega
theorem RV {cs:List Value} {j:Nat} (h:j<cs.length):cs[j]? =some (cs.getD j undef):=by simp[List.getD_eq_getElem?_getD,h]
def m9 (cs:List Value) (k v:Nat):List Value:=((((((((cs.set (k+0) (.int .u8 ((v%256:Nat):Int))).set (k+1) (.int .u8 ((v/2^8%256:Nat):Int))).set (k+2) (.int .u8 ((v/2^16%256:Nat):Int))).set (k+3) (.int .u8 ((v/2^24%256:Nat):Int))).set (k+4) (.int .u8 ((v/2^32%256:Nat):Int))).set (k+5) (.int .u8 ((v/2^40%256:Nat):Int))).set (k+6) (.int .u8 ((v/2^48%256:Nat):Int))).set (k+7) (.int .u8 ((v/2^56%256:Nat):Int)))
theorem vY (cs:List Value) (k v:Nat):(m9 cs k v).length=cs.length:=by simp[m9]
theorem LJ (v:Nat):bE v 8=[v%256,v/2^8%256,v/2^16%256,v/2^24%256,v/2^32%256,v/2^40%256,v/2^48%256,v/2^56%256]:=by simp[bE,List.range_succ]
theorem Dk {cs:List Value} {k v:Nat} (h:k+8≤cs.length) {i:Nat}:(m9 cs k v)[i]? =if i<k then cs[i]? else if i<k+8 then (aa .u8 (bE v 8))[i-k]? else cs[i]? :=by
  by_cases h1:i<k
  · rw[if_pos h1];simp only[m9,List.getElem?_set];repeat rw[if_neg Om]
  · rw[if_neg h1];by_cases h2:i<k+8
    · rw[if_pos h2,LJ];obtain⟨d,rfl⟩:∃d,i=k+d:=⟨i-k,Om⟩;have hd:d<8:=Om;rw[Nat.add_sub_cancel_left];have:d=0∨d=1∨d=2∨d=3∨d=4∨d=5∨d=6∨d=7:=Om;rcases this with rfl|rfl|rfl|rfl|rfl|rfl|rfl|rfl<;>simp[m9,List.getElem?_set,aa]<;>omega
    · rw[if_neg h2];simp only[m9,List.getElem?_set];repeat rw[if_neg Om]
theorem Dl (v:Nat) {j n:Nat} (h:j≤n):(bE v n).take j=bE v j:=by
  unfold bE;rw[←List.map_take,List.take_range,Nat.min_eq_left h]
theorem Am {cs:List Value} {P:List Nat} {k v j:Nat} (h:k+8≤cs.length) (hp:cs.take k=aa .u8 P) (hj:j≤8):(m9 cs k v).take (k+j)=aa .u8 (P++bE v j):=by
  rw[ng, ←hp, ←Dl v hj];apply List.ext_getElem?;intro i;have fg:(cs.take k).length=k:=by rw[List.length_take];omega
  by_cases h1:i<k
  · rw[List.getElem?_append_left Om,List.getElem?_take,if_pos Om,Dk h,if_pos h1,List.getElem?_take,if_pos h1]
  · rw[List.getElem?_append_right Om,fg];by_cases h2:i<k+j
    · rw[List.getElem?_take,if_pos h2,Dk h,if_neg h1,if_pos Om];simp only[aa,List.map_take,List.getElem?_take];rw[if_pos Om]
    · rw[List.getElem?_take,if_neg h2]
      symm
      rw[List.getElem?_eq_none];rw[iO,List.length_take,aH];omega
structure rJ (CN:List Nat) (ls:List Nat) (R la:Nat) (ys:List Nat):Prop where
  len:ls.length=256
  hw:HW ls R la
  wh:jn ls
  R11:R≤11
  has:∀x,x<256→CN.getD x 0≠0→1≤ls.getD x 0
  tw:mG (cU ls R la) ys
theorem mG.bytes {ws ys:List Nat} (h:mG ws ys) (hw:fm ws 15) (h1:1≤ws.length):Bytes ys:=by
  rcases h with ⟨a,b⟩|⟨cs,b,a,c,d⟩
  · rw[b];intro x hx;rcases List.mem_append.1 hx with e|e
    · rw[List.mem_singleton] at e;omega
    · exact zS ws hw x e
  · rw[d];intro x hx;rcases List.mem_append.1 hx with e|e
    · rw[List.mem_singleton] at e;omega
    · exact a.bytes x e
theorem mG.size {ws ys:List Nat} (h:mG ws ys):ys.length≤128:=by
  rcases h with ⟨a,b⟩|⟨cs,b,a,c,d⟩
  · rw[b,List.length_append,ss];simp;omega
  · rw[d,List.length_append];simp;omega
section
variable {CN ls ys T:List Nat} {R la:Nat}
theorem rJ.bytes (h:rJ CN ls R la ys):Bytes ys:=by
  have hl:=h.hw.lt;have h1:=h.hw.G4 h.wh;refine h.tw.bytes (fun x hx=>Nat.le_trans ((tM:fm (cU ls R la) R) x hx) (by have:=h.R11;omega)) ?_;rw[kY Om];exact h1
end
theorem gE.tab {CN:List Nat} {T:List (Nat × Nat)} {sl R:Nat} {ys:List Nat} (h:gE CN T sl R) (kL:2≤sl∧sl≤256) (hz:∀x,sl≤x→x<256→CN.getD x 0=0) (hl:CN.getD (sl-1) 0≠0) (hR:R≤11) {a b:Nat} (Ch:a≠b) (ha:a<256) (hb:b<256) (Jf:CN.getD a 0≠0) (LB:CN.getD b 0≠0)
    (ht:mG (cU (jz T sl) R (sl-1)) ys):rJ CN (jz T sl) R (sl-1) ys:=by
  have fg:∀x,x<256→CN.getD x 0≠0→x<sl:=fun x hx h0=>Classical.byContradiction fun hn=>h0 (hz x Om hx)
  exact⟨gR,h.hw Om hl,h.whole kL.2 hR Ch (fg a ha Jf) (fg b hb LB) Jf LB,hR,fun x hx h0=>(h.has kL.2 (fg x hx h0) h0).1,ht⟩
theorem rK {ls:List Nat}:∀t:List Nat,(∀c ∈ t,ls.getD c 0≤11)→tN (p5 ls) t≤11*t.length
  |[],_=>by simp[tN]
  |c::t,h=>by
    have h1:=rK t (fun x hx=>h x (List.mem_cons_of_mem _ hx));have h2:=h c List.mem_cons_self;simp only[tN,p5,List.length_cons];show ls.getD c 0+tN (p5 ls) t≤_;omega
theorem RW {ls:List Nat} {L last c:Nat} (h:HW ls L last) (hw:jn ls) (hc:1≤ls.getD c 0):c<256∧l4 ls c<2^ls.getD c 0:=by
  have ht:=(KR (r:=(List.range 16).map (startW (l8 ls L last))) (dt:=List.replicate 2048 0) h hw hw.even Oi (fun w h1 h2=>by
    have hL:=h.L11 hw;rw[List.getD_eq_getElem?_getD,List.getElem?_map,List.getElem?_range Om];rfl) List.length_replicate).1
  have:=ht.one c hc;exact⟨this.1,this.2.2.2⟩
structure P4 (ls text:List Nat):Prop where
  len:∀c ∈ text,1≤ls.getD c 0∧ls.getD c 0≤11
  lt:∀c ∈ text,l4 ls c<2^ls.getD c 0
def vZ (ls text P:List Nat) (C nb i:Nat):Prop:=nS P C nb (tN (p5 ls) (text.drop i)) (bitsV (codeBits ls (text.drop i)))
section
variable {ls text P:List Nat} {C nb i:Nat}
theorem vZ.begin:vZ ls text [] 0 0 text.length:=by
  unfold vZ;rw[List.drop_length];exact nS.begin rfl rfl
theorem Fk {c:Nat} {t:List Nat} (h:l4 ls c<2^ls.getD c 0):bitsV (codeBits ls (c::t))=bitsV (codeBits ls t)+l4 ls c*2^tN (p5 ls) t:=by
  rw[codeBits,oV,pY,lN,Nat.mod_eq_of_lt h,Nat.add_comm]
theorem vZ.step (h:vZ ls text P C nb (i+1)) (hc:P4 ls text) (hi:i<text.length) {c x b:Nat} (ec:c=text.getD i 0) (ex:x=l4 ls c) (eb:b=ls.getD c 0) (hb:nb+b≤63):vZ ls text P (C+x*2^nb) (nb+b) i:=by
  have hm:c ∈ text:=by rw[ec];exact ix hi
  have h1:=hc.lt c hm;have h2:=nS.add h (x:=x) (b:=b) (by rw[ex,eb];exact h1) hb;unfold vZ;rw[qO hi, ←ec,Fk h1];show nS P _ _ ((p5 ls c).1+tN (p5 ls) (text.drop (i+1))) _;rw[Nat.add_comm (p5 ls c).1];rw[ex,eb] at h2 ⊢;exact h2
theorem vZ.flush (h:vZ ls text P C nb i) {k:Nat} (hk:8*k≤nb):vZ ls text (P++bE C k) (C/2^(8*k)) (nb-8*k) i:=nS.flush h hk
theorem vZ.bound (h:vZ ls text P C nb i) (hc:P4 ls text):8*P.length+nb≤11*text.length:=by
  have h1:=nS.len h;have h2:=rK (ls:=ls) (text.drop i) fun c Cn=>(hc.len c (List.mem_of_mem_drop Cn)).2
  rw[List.length_drop] at h2;omega
theorem vZ.fin (h:vZ ls text P C nb 0) (hb:nb≤62) {k:Nat} (hk:k=(nb+1+7)/8):Bytes (P++bE (C+1*2^nb) k)∧(P++bE (C+1*2^nb) k).length=tN (p5 ls) text/8+1∧tailV (P++bE (C+1*2^nb) k) 0 (tN (p5 ls) text/8+1)=2^tN (p5 ls) text+bitsV (codeBits ls text):=by
  have h1:=(nS.add h (x:=1) (b:=1) Od Om).align hk;rw[List.drop_zero,show(tN (p5 ls) text+1+7)/8=tN (p5 ls) text/8+1 by omega] at h1;obtain⟨a,b,c⟩:=h1;exact⟨a,b,by rw[c,Nat.one_mul,Nat.add_comm]⟩
theorem vZ.four (h:vZ ls text P C nb (i+4)) (hc:P4 ls text) (hi:i+3<text.length) (hb:nb≤19) {a0 a1 a2 a3 b0 b1 b2 b3:Nat} (e0:a0=l4 ls (text.getD i 0)) (e1:a1=l4 ls (text.getD (i+1) 0)) (e2:a2=l4 ls (text.getD (i+2) 0)) (e3:a3=l4 ls (text.getD (i+3) 0)) (f0:b0=ls.getD (text.getD i 0) 0) (f1:b1=ls.getD (text.getD (i+1) 0) 0) (f2:b2=ls.getD (text.getD (i+2) 0) 0) (f3:b3=ls.getD (text.getD (i+3) 0) 0):
    vZ ls text P (C+(a3+a2*2^b3+a1*2^(b3+b2)+a0*2^(b3+b2+b1))*2^nb) (nb+(b3+b2+b1+b0)) i∧b0≤11∧b1≤11∧b2≤11∧b3≤11∧a3<2^b3∧a2<2^b2∧a1<2^b1∧a0<2^b0:=by
  have g:∀j,j<text.length→ls.getD (text.getD j 0) 0≤11∧l4 ls (text.getD j 0)<2^ls.getD (text.getD j 0) 0:=fun j hj=>⟨(hc.len _ (ix hj)).2,hc.lt _ (ix hj)⟩
  have g0:=g i Om;have g1:=g (i+1) Om;have g2:=g (i+2) Om;have g3:=g (i+3) Om;rw[←e0, ←f0] at g0;rw[←e1, ←f1] at g1;rw[←e2, ←f2] at g2;rw[←e3, ←f3] at g3;have s3:=vZ.step (i:=i+3) h hc Om rfl e3 f3 Om;have s2:=vZ.step (i:=i+2) s3 hc Om rfl e2 f2 Om;have s1:=vZ.step (i:=i+1) s2 hc Om rfl e1 f1 Om;have s0:=vZ.step (i:=i) s1 hc Om rfl e0 f0 Om;refine⟨?_,g0.1,g1.1,g2.1,g3.1,g3.2,g2.2,g1.2,g0.2⟩;have eC:C+a3*2^nb+a2*2^(nb+b3)+a1*2^(nb+b3+b2)+a0*2^(nb+b3+b2+b1)=C+(a3+a2*2^b3+a1*2^(b3+b2)+a0*2^(b3+b2+b1))*2^nb:=by
    simp only[Nat.add_mul,Nat.mul_assoc, ←Nat.pow_add];rw[show nb+b3=b3+nb by omega,show b3+nb+b2=b3+b2+nb by omega,show b3+b2+nb+b1=b3+b2+b1+nb by omega];omega
  rw[←eC,show nb+(b3+b2+b1+b0)=nb+b3+b2+b1+b0 by omega];exact s0
end
def LK (b o:Nat) (cs:List Value) (b' o':Nat) (O:aU):Prop:=(b'=b∧o'=o∧O=⟨0,0,[],none⟩)∨(O.b=b∧O.o=o∧O.cs=cs)
def jC (b o n:Nat) (P:List Nat) (b' o':Nat) (O:aU):Prop:=(b'=b∧o'=o∧O=⟨0,0,[],none⟩)∨(O.b=b∧O.o=o∧O.cs.take n=aa .u8 P)
theorem LK.n {b o b' o' n:Nat} {cs:List Value} {O:aU} {P:List Nat} (h:LK b o cs b' o' O) (hp:cs.take n=aa .u8 P):jC b o n P b' o' O:=by
  rcases h with h|⟨h1,h2,h3⟩
  · exact .inl h
  · exact .inr ⟨h1,h2,by rw[h3];exact hp⟩
theorem jC.same {b o n:Nat} {P:List Nat}:jC b o n P b o ⟨0,0,[],none⟩:=.inl ⟨rfl,rfl,rfl⟩
theorem jC.less {b o b' o' n m:Nat} {O:aU} {P:List Nat} (h:jC b o n P b' o' O) (hm:m≤n):jC b o m (P.take m) b' o' O:=by
  rcases h with h|⟨h1,h2,h3⟩
  · exact .inl h
  · refine .inr ⟨h1,h2,?_⟩;have e:O.cs.take m=(O.cs.take n).take m:=by rw[List.take_take,Nat.min_eq_left hm]
    rw[e,h3];simp[aa,List.map_take]
section
variable {P:Program} {K:Kx} {Q:Exit→Act→World→Prop} {ρ:ba} {l r:List aU} {o:Oper} {v:Value} {x y z:Operand} {t s f sz n m c lo hi len cap b q j d:Nat} {k k':IntKind}
theorem At.LL {a:Act} {w:World} {s t:aU} {i:Nat} (h:At K ρ (s::l) r a w) (hi:nthS i l=some t):At K ρ (t::setS i s l) r a w:=(h.perm (vb i s t l hi)).perm List.perm_append_comm
theorem At.tl {a:Act} {w:World} {s:aU} (h:At K ρ (s::l) r a w):At K ρ l r a w:=(h.perm (List.perm_append_singleton s l).symm).left
section
variable {b0 o0 n0 b1 o1 n1 b2 o2:Nat} {P0 P1:List Nat} {O1 O2:aU}
end
theorem WB {ca:Call} {q q2:Option Addr} {b o' c2 e qL:Nat} {cs zs news:List Value} {sh:Option (TypeId × Nat)} (i:Nat) (ho:o.op=.call ca) (hc:ca.callee=.builtin .append) (jZ:evs ρ ca.args.toList=some [.slice q n cap,.slice q2 m c2]) (yY:ca.argTypes= #[t,t]) (hP:gM P t=some (e,zs,sz,qL)) (hz:zs.length=sz)
    (hs:nthS i l=some ⟨b,o',cs,sh⟩) (hg:GS q b o' cs sz cap) (vd:Src l r q2 news) (LM:cap≤9223372036854775807) (hn:n≤cap∧0<sz∧(n+m)*qL≤140737488355328∧n+m≤9223372036854775807) (hlen:news.length=m*sz) (h1:(news.all fun u=>u.oneCell')=true) (hd:o.dst=some d) (wo:Nat.blt d K.n=true):
    oL P K ρ l r o (fun ρ' l'=>∃q' b' Eg kd ig O,GS q' b' Eg kd sz ig∧n+m≤ig∧kd.take ((n+m)*sz)=cs.take (n*sz)++news∧LK b o' cs b' Eg O∧ig≤9223372036854775807∧ρ'=(d,.slice q' (n+m) ig)::ρ∧l'=O::setS i ⟨b',Eg,kd,none⟩ l):=by
  intro a w ha nx Q px;obtain⟨AX,h0,TG,h63⟩:=hn;obtain⟨i',zv,hu,hi,vc,pK,wT,AY⟩:=jc hP;have ve:∀w,(sizeOf e).run P w=.ok sz w:=du (by simp[cY,hi,wT]);have kS:=nc ha.fr jZ;have VI:∀u ∈ news,u.oneCell'=true:=fun u hu=>List.all_eq_true.1 h1 u hu
  have lU:∀(u:Value) (w':World),(Builtin.append_ #[t,t] o.type #[.slice q n cap,.slice q2 m c2]).run P w=.ok u w'→(execOp a.eval o).run P w=.ok (.value u) w':=fun u w' h=>by
    simp[execOp,ho,resolve,hc,kS,invoke,builtin,yY,h]
  have zN:zv.cells.size=sz:=by rw[←hz, ←pK];simp
  have Q7:cs.length=cap*sz:=hg.len;unfold Oper.wp;by_cases kt:n+m≤cap
  · -- within the room
    have hle:(n+m)*sz≤cap*sz:=Nat.mul_le_mul_right _ kt;rw[Nat.add_mul] at hle;have fin:∀(w':World) (q':Option Addr),At K ρ (setS i ⟨b,o',spl cs (n*sz) news,none⟩ l) r a w'→q'=q→
        nx (a.put (some d) (.slice q' (n+m) cap)) w':=fun w' q' hA hq'=>by
      subst hq';refine px _ _ ⟨_,_,⟨q',b,o',spl cs (n*sz) news,cap,⟨0,0,[],none⟩,⟨by rw[mA];exact Q7,hg.ad⟩,kt,?_,.inl ⟨rfl,rfl,rfl⟩,LM,rfl,rfl⟩,(hA.empty 0 0).put wo _⟩;rw[Nat.add_mul, ←hlen];exact Cz _ _ _ Om
    have Ez:∀w',At K ρ (setS i ⟨b,o',spl cs (n*sz) news,sh⟩ l) r a w'→At K ρ (setS i ⟨b,o',spl cs (n*sz) news,none⟩ l) r a w':=fun w' hA=>by
      exact((hA.perm (jP i _ _ l hs)).nf).perm (jP i _ _ l hs).symm
    rcases vd.cells ha with AZ|⟨ad,Q8,lK⟩
    · -- nothing is appended
      subst AZ;have hm:m=0:=by
        rcases Nat.mul_eq_zero.1 (show m*sz=0 by simpa using hlen.symm) with h|h
        · exact h
        · omega
      subst hm;have EA:(Builtin.firstCells sz 0 (.slice q2 0 c2)).run P w=.ok #[] w:=by
        cases q2<;>simp[Builtin.firstCells,loadCells,loadCellsFrom]
      have hr:(Builtin.append_ #[t,t] o.type #[.slice q n cap,.slice q2 0 c2]).run P w=.ok (.slice q (n+0) cap) w:=by
        cases q<;>simp[Builtin.append_,br hu,ve,Builtin.lenOf,kt,AX,EA,storeCells]
      rw[lU _ _ hr];simp only[Oper.upon,hd];refine fin w q (Ez w ?_) rfl;have:(⟨b,o',spl cs (n*sz) [],sh⟩:aU)=⟨b,o',cs,sh⟩:=rfl;rw[this,jb i _ l hs];exact ha
    · by_cases wC:m=0
      · subst wC;simp at hlen;subst hlen;have EA:(Builtin.firstCells sz 0 (.slice q2 0 c2)).run P w=.ok #[] w:=by
          cases q2<;>simp[Builtin.firstCells,loadCells,loadCellsFrom]
        have hr:(Builtin.append_ #[t,t] o.type #[.slice q n cap,.slice q2 0 c2]).run P w=.ok (.slice q (n+0) cap) w:=by
          cases q<;>simp[Builtin.append_,br hu,ve,Builtin.lenOf,kt,AX,EA,storeCells]
        rw[lU _ _ hr];simp only[Oper.upon,hd];refine fin w q (Ez w ?_) rfl;have:(⟨b,o',spl cs (n*sz) [],sh⟩:aU)=⟨b,o',cs,sh⟩:=rfl;rw[this,jb i _ l hs];exact ha
      · have hq:q=some ⟨b,o',none⟩:=hg.bD Om;subst hq;subst Q8;have EA:=run_firstCells_some (P:=P) w sz m ad m c2 news hlen lK;obtain⟨w',TH,hA⟩:=iP (P:=P) news 0 (n*sz) l w ⟨b,o',cs,sh⟩ i b (o'+n*sz) ha hs rfl Oi Oz VI;have hr:(Builtin.append_ #[t,t] o.type #[.slice (some ⟨b,o',none⟩) n cap,.slice (some ad) m c2]).run P w=.ok (.slice (some ⟨b,o',none⟩) (n+m) cap) w':=by
          simp[Builtin.append_,br hu,ve,Builtin.lenOf,kt,EA,dK,TH]
        rw[lU _ _ hr];simp only[Oper.upon,hd];exact fin w' _ (Ez w' hA) rfl
  · -- it grows
    have wC:0<m:=Om;have Kq:news≠[]:=by
      intro e;subst e;rcases Nat.mul_eq_zero.1 (show m*sz=0 by simpa using hlen.symm) with h|h<;>omega
    rcases vd.cells ha with AZ|⟨ad,Q8,lK⟩
    · exact(Kq AZ).elim
    subst Q8;have Kr:Builtin.nextslicecap (n+m) cap*i'.bytes≤281474976710656:=growslice_fits Om (by rw[AY];exact TG);have fin:∀(C:Nat) (sk rest:List Value),n+m≤C→C≤9223372036854775807→sk=cs.take (n*sz)→rest.length=(C-(n+m))*sz→
        nx (a.put (some d) (.slice (some ⟨w.heap.size,0,none⟩) (n+m) C)) (w.drew.alloc (.cells (sk.toArray++news.toArray++rest.toArray) e)):=fun C sk rest hC hCm VJ hr=>by
      have hA:=((ha.drew.alloc (sk.toArray++news.toArray++rest.toArray) e).nf).LL hs;have TI:sk.length=n*sz:=by
        have:n*sz≤cap*sz:=Nat.mul_le_mul_right _ AX;rw[VJ,List.length_take];omega
      have hCC:C*sz=(n+m)*sz+(C-(n+m))*sz:=by rw[←Nat.add_mul];congr 1;omega
      refine px _ _ ⟨_,_,⟨some ⟨w.heap.size,0,none⟩,w.heap.size,0,(sk.toArray++news.toArray++rest.toArray).toList,C,⟨b,o',cs,sh⟩,⟨?_,.inl rfl⟩,hC,?_,.inr ⟨rfl,rfl,rfl⟩,hCm,rfl,rfl⟩,hA.put wo _⟩
      · simp only[Array.toList_append,List.length_append,TI,hlen,hr,hCC];rw[Nat.add_mul]
      · have h2:(n+m)*sz=(sk++news).length:=by simp[TI,hlen,Nat.add_mul]
        simp only[Array.toList_append];rw[h2,List.take_left',VJ]
        · simp[VJ]
    have wq:=grownCap_ge w (n+m) cap e;have hgl:grownCap w (n+m) cap e≤9223372036854775807:=grownCap_le_maxLen w (n+m) cap e h63;have A0:∀N,(Builtin.zeroCells zv.cells N).toList.length=N*sz:=fun N=>by simp[Builtin.zeroCells,zN]
    rcases hg.ad with hq|⟨hq,CA⟩
    · subst hq;have vI:∀j u,(cs.take (n*sz))[j]? =some u→w.cell? ((⟨b,o',none⟩:Addr).add j)=some u:=fun j u hj=>by
        rw[dK];have ks:=ha.st.hl _ (ed _ _ _ hs);rw[List.getElem?_take] at hj;split at hj
        · exact ks.1 _ _ hj
        · cases hj
      have hr:=run_append_grow (P:=P) w t o.type e i' zv hu hi vc ⟨b,o',none⟩ n cap (cs.take (n*sz)) (by
        have:n*sz≤cap*sz:=Nat.mul_le_mul_right _ AX;rw[List.length_take,wT];omega) vI ad m c2 news (by rw[wT];exact hlen) lK Om Om Kr
      rw[lU _ _ hr];simp only[Oper.upon,hd];have:=fin (grownCap w (n+m) cap e) _ (Builtin.zeroCells zv.cells (grownCap w (n+m) cap e-(n+m))).toList wq hgl rfl (A0 _);simpa using this
    · subst hq;subst CA;obtain rfl:n=0:=Om;have hr:=run_append_nil (P:=P) w t o.type e i' zv hu hi vc ad m c2 news (by rw[wT];exact hlen) lK Om Om (by
        rw[AY];rw[Nat.zero_add] at TG;omega)
      rw[lU _ _ hr];simp only[Oper.upon,hd];have:=fin (grownCap w m 0 e) [] (Builtin.zeroCells zv.cells (grownCap w m 0 e-m)).toList (by simpa using wq) (by simpa using hgl) Oi (by simpa using A0 _);simpa using this
theorem w7 {ca:Call} {q q2:Option Addr} {b o' c2 e qL:Nat} {cs zs:List Value} {xs ys:List Nat} {sh:Option (TypeId × Nat)} (i:Nat) (ho:o.op=.call ca) (hc:ca.callee=.builtin .append) (jZ:evs ρ ca.args.toList=some [.slice q n cap,.slice q2 m c2]) (yY:ca.argTypes= #[t,t]) (hP:gM P t=some (e,zs,1,qL)) (hz:zs.length=1)
    (hs:nthS i l=some ⟨b,o',cs,sh⟩) (hg:GS q b o' cs 1 cap) (hp:cs.take n=aa .u8 xs) (vd:Src l r q2 (aa .u8 ys)) (LM:cap≤9223372036854775807) (hn:n≤cap∧(n+m)*qL≤140737488355328∧n+m≤9223372036854775807∧ys.length=m) (hd:o.dst=some d) (wo:Nat.blt d K.n=true):
    oL P K ρ l r o (fun ρ' l'=>∃q' b' Eg kd ig O,GS q' b' Eg kd 1 ig∧n+m≤ig∧kd.take (n+m)=aa .u8 (xs++ys)∧jC b o' n xs b' Eg O∧ig≤9223372036854775807∧ρ'=(d,.slice q' (n+m) ig)::ρ∧l'=O::setS i ⟨b',Eg,kd,none⟩ l):=by
  intro a w ha nx Q px;refine WB (K:=K) i ho hc jZ yY hP hz hs hg vd LM ⟨hn.1,Om,hn.2.1,hn.2.2.1⟩ (by simp[hn.2.2.2]) (xK _) hd wo a w ha nx Q fun a' w' ⟨ρ',l',⟨q',b',Eg,kd,ig,O,h1,h2,h3,h4,h4',h5,h6⟩,h7⟩=>px a' w' ⟨ρ',l',⟨q',b',Eg,kd,ig,O,h1,h2,?_,h4.n hp,h4',h5,h6⟩,h7⟩
  rw[Nat.mul_one,Nat.mul_one,hp] at h3;rw[h3,ng]
end
section
variable {P:Program} {K:Kx} {Q:Exit→Act→World→Prop} {ρ:ba} {l r:List aU} {o:Oper} {v:Value} {x y z:Operand} {t s f sz n m c lo hi len cap b q j d:Nat} {k k':IntKind}
theorem WD {ca:Call} {b o' e qL:Nat} {cs zs:List Value} {sh:Option (TypeId × Nat)} {kq kn:IntKind} {tn:TypeId} (i:Nat) (ho:o.op=.call ca) (hc:ca.callee=.builtin .append) (jZ:evs ρ ca.args.toList=some [.slice (some ⟨b,o',none⟩) n cap,.int kq ((m:Nat):Int)]) (yY:ca.argTypes= #[t,tn]) (hP:gM P t=some (e,zs,1,qL)) (hz:zs.length=1) (Ua:P.underlying tn=some (.int kn))
    (hs:nthS i l=some ⟨b,o',cs,sh⟩) (hn:n≤cs.length∧0<m∧cap<n+m∧n≤cap∧(n+m)*qL≤140737488355328∧m*qL≤281474976710656∧n+m≤9223372036854775807) (hd:o.dst=some d) (wo:Nat.blt d K.n=true):
    oL P K ρ l r o (fun ρ' l'=>∃b' kd ig,kd.length=ig∧n+m≤ig∧ig≤9223372036854775807∧kd.take n=cs.take n∧ρ'=(d,.slice (some ⟨b',0,none⟩) (n+m) ig)::ρ∧l'=⟨b,o',cs,sh⟩::setS i ⟨b',0,kd,none⟩ l):=by
  intro a w ha nx Q px;obtain⟨h1,h2,h3,h4,h5,h5',h6⟩:=hn;obtain⟨i',zv,hu,hi,vc,pK,wT,AY⟩:=jc hP;have kS:=nc ha.fr jZ;have lU:∀(u:Value) (w':World),(Builtin.append_ #[t,tn] o.type #[.slice (some ⟨b,o',none⟩) n cap,.int kq ((m:Nat):Int)]).run P w=.ok u w'→(execOp a.eval o).run P w=.ok (.value u) w':=fun u w' h=>by
    simp[execOp,ho,resolve,hc,kS,invoke,builtin,yY,h]
  have zN:zv.cells.size=1:=by rw[←hz, ←pK];simp
  have vI:∀j u,(cs.take n)[j]? =some u→w.drew.cell? ((⟨b,o',none⟩:Addr).add j)=some u:=fun j u hj=>by
    rw[dK];have ks:=ha.drew.st.hl _ (ed _ _ _ hs);rw[List.getElem?_take] at hj;split at hj
    · exact ks.1 _ _ hj
    · cases hj
  have hold:=run_firstCells_some (P:=P) w.drew 1 n ⟨b,o',none⟩ n cap (cs.take n) (by rw[List.length_take];omega) vI;have Kr:Builtin.nextslicecap (n+m) cap*i'.bytes≤281474976710656:=growslice_fits Om (by rw[AY];exact h5);have hr:=Lib.run_append_grow_zeros (P:=P) w t tn o.type e i' zv kq kn hu Ua hi vc (some ⟨b,o',none⟩) n cap (cs.take n) (by rw[wT];exact hold) m h2 Om h3 Om (by rw[AY];exact h5') Kr;have wq:=grownCap_ge w (n+m) cap e;have A0:∀N,(Builtin.zeroCells zv.cells N).toList.length=N:=fun N=>by simp[Builtin.zeroCells,zN]
  unfold Oper.wp;rw[lU _ _ hr];simp only[Oper.upon,hd];obtain⟨Z1,RQ⟩:∃z,z=Builtin.zeroCells zv.cells m:=⟨_,rfl⟩;obtain⟨Z2,RR⟩:∃z,z=Builtin.zeroCells zv.cells (grownCap w (n+m) cap e-(n+m)):=⟨_,rfl⟩;rw[←RQ, ←RR];have l1:Z1.toList.length=m:=by rw[RQ];exact A0 _
  have l2:Z2.toList.length=grownCap w (n+m) cap e-(n+m):=by rw[RR];exact A0 _
  have hA:=((ha.drew.alloc ((cs.take n).toArray++Z1++Z2) e).nf).LL hs;have TI:(cs.take n).length=n:=by rw[List.length_take];omega
  refine px _ _ ⟨_,_,⟨w.heap.size,((cs.take n).toArray++Z1++Z2).toList,grownCap w (n+m) cap e,?_,wq,grownCap_le_maxLen w (n+m) cap e h6,?_,rfl,rfl⟩,hA.put wo _⟩
  · simp only[Array.toList_append,List.length_append,TI,l1,l2];omega
  · simp only[Array.toList_append];rw[List.append_assoc,List.take_left' TI]
end
def lW (b o n:Nat) (P:List Nat) (b' o':Nat) (D:List aU):Prop:=(b'=b∧o'=o)∨∃O ∈ D,O.b=b∧O.o=o∧O.cs.take n=aa .u8 P
theorem lW.begin {b o n:Nat} {P:List Nat} {D:List aU}:lW b o n P b o D:=.inl ⟨rfl,rfl⟩
theorem lW.push {b0 o0 n0 b1 o1 n1 b2 o2:Nat} {P0 P1:List Nat} {D:List aU} {O:aU} (h:lW b0 o0 n0 P0 b1 o1 D) (hO:jC b1 o1 n1 P1 b2 o2 O) (hn:n0≤n1) (hp:P1.take n0=P0):lW b0 o0 n0 P0 b2 o2 (O::D):=by
  rcases h with ⟨e1,e2⟩|⟨O',hm,h'⟩
  · subst e1;subst e2;have h3:=hO.less hn;rw[hp] at h3;rcases h3 with ⟨e1,e2,_⟩|h3
    · exact .inl ⟨e1,e2⟩
    · exact .inr ⟨O,List.mem_cons_self,h3⟩
  · exact .inr ⟨O',List.mem_cons_of_mem _ hm,h'⟩
theorem lW.more {b o n b' o':Nat} {P:List Nat} {D:List aU} {O:aU} (h:lW b o n P b' o' D):lW b o n P b' o' (O::D):=h.imp id fun ⟨O',hm,h'⟩=>⟨O',List.mem_cons_of_mem _ hm,h'⟩
section
variable {P:Program} {K:Kx} {Q:Exit→Act→World→Prop} {ρ:ba} {l r:List aU}
theorem At.LN {a:Act} {w:World} {D:List aU} {O:aU} (h:At K ρ (l++D) r a w) (hO:O ∈ D):At K ρ (O::l) r a w:=by
  obtain⟨s,t,rfl⟩:=List.append_of_mem hO;have hp:(l++(s++O::t)).Perm ((O::l)++(s++t)):=by
    have h1:(s++O::t).Perm (O::(s++t)):=List.perm_middle;exact(h1.append_left l).trans List.perm_middle
  exact(h.perm hp).left
theorem At.lone {a:Act} {w:World} {b o n b' o':Nat} {P0:List Nat} {D:List aU} (h:At K ρ (l++D) r a w) (hk:lW b o n P0 b' o' D):∃O,jC b o n P0 b' o' O∧At K ρ (O::l) r a w:=by
  rcases hk with ⟨e1,e2⟩|⟨O,hm,h'⟩
  · exact⟨⟨0,0,[],none⟩,.inl ⟨e1,e2,rfl⟩,h.left.empty 0 0⟩
  · exact⟨O,.inr h',h.LN hm⟩
theorem GQ.lone {e:Exit} {b o n b' o':Nat} {P0:List Nat} {D:List aU} (hk:lW b o n P0 b' o' D) (k:∀O,jC b o n P0 b' o' O→GQ K Q e ρ (O::l) r):GQ K Q e ρ (l++D) r:=fun a w ha=>by
  obtain⟨O,h1,h2⟩:=ha.lone hk;exact k O h1 a w h2
end
theorem RX (A B:List Nat) (x y:Nat):((A++0::0::B).set A.length x).set (A.length+1) y=A++x::y::B:=by
  rw[List.set_append_right _ _ (Nat.le_refl _),Nat.sub_self,List.set_cons_zero,List.set_append_right _ _ Om,show A.length+1-A.length=1 by omega]
  rfl
def hz (Y:List (List Nat)):List Nat:=tL (Y.take 3)++List.replicate (6-2*min Y.length 3) 0
theorem pf:∀Y:List (List Nat),(tL Y).length=2*Y.length
  |[]=>rfl
  |y::Y=>by
    have:=pf Y;simp only[tL,List.flatMap_cons,List.length_append,List.length_cons,List.length_nil] at this ⊢;omega
theorem gS (Y:List (List Nat)):(hz Y).length=6:=by
  simp only[hz,List.length_append,pf,List.length_take,List.length_replicate];omega
theorem RY {Y:List (List Nat)} {y base Q:List Nat} {n:Nat} (h:Y.length<3) (hn:y.length=n):(((base++(hz Y++Q)).set (base.length+2*Y.length) (n%256)).set (base.length+2*Y.length+1) (n/2^8))=base++(hz (Y++[y])++Q):=by
  have e1:hz Y=tL Y++0::0::List.replicate (4-2*Y.length) 0:=by
    rw[hz,List.take_of_length_le Om,show 6-2*min Y.length 3=(4-2*Y.length)+1+1 by omega,List.replicate_succ,List.replicate_succ]
  have e2:hz (Y++[y])=tL Y++(n%256)::(n/2^8)::List.replicate (4-2*Y.length) 0:=by
    have h2:=EJ (y:=y) h hn;rw[List.take_of_length_le (l:=Y) Om] at h2;rw[hz,h2,List.append_assoc,List.length_append,show 6-2*min (Y.length+[y].length) 3=4-2*Y.length by simp;omega]
    rfl
  rw[e1,e2];have h3:=RX (base++tL Y) (List.replicate (4-2*Y.length) 0++Q) (n%256) (n/2^8);rw[List.length_append,pf] at h3;simpa [List.append_assoc] using h3
theorem RZ {Y:List (List Nat)} {y:List Nat} (h:Y.length=3):hz (Y++[y])=hz Y:=by
  rw[hz,hz,List.take_append_of_le_length Om,List.length_append];congr 2;simp;omega
theorem al4 (d:Nat):∃q:Int,Int.tdiv ((d:Int)-8) 6=q∧(q≤0→d<14)∧(0<q→6*q+8≤d∧14≤d)∧q≤d∧ -8≤q:=by
  refine⟨_,rfl,?_⟩;rcases Nat.lt_or_ge d 8 with h|h
  · have:d=0∨d=1∨d=2∨d=3∨d=4∨d=5∨d=6∨d=7:=Om;rcases this with rfl|rfl|rfl|rfl|rfl|rfl|rfl|rfl<;>decide
  · obtain⟨e,rfl⟩:∃e,d=e+8:=⟨d-8,Om⟩;have:((e+8:Nat):Int)-8=(e:Int):=Om;rw[this];have h2:Int.tdiv (e:Int) 6=((e/6:Nat):Int):=rfl;rw[h2];omega
theorem LO {P:Program} {ρ:ba} {o:Oper} {x y:Operand} {a b q:Int} {ty cT:TypeId} (ho:o.op=.binOp .quo ty x y cT) (hx:ev ρ x=some (.int .i64 a)) (hy:ev ρ y=some (.int .i64 b)) (hb:b≠0) (e:a.tdiv b=q) (hr: -9223372036854775808≤q∧q≤9223372036854775807):bB P ρ o (.int .i64 q):=(xC ho hx hy hb).cast (by rw[e,IntWalk.i64_in _ hr])
theorem uq {T:List (Nat × Nat)} {ls text:List Nat} {i:Nat} (hT:∀c ∈ text,T.getD c (0,0)=(l4 ls c,ls.getD c 0)) (hi:i<text.length) {c:Nat} (hc:c=text.getD i 0):(T.getD c (0,0)).1=l4 ls c∧(T.getD c (0,0)).2=ls.getD c 0:=by
  have hm:c ∈ text:=by rw[hc];exact ix hi
  rw[hT c hm];exact⟨rfl,rfl⟩
theorem w8 {xs:List Nat} {n k j:Nat} (h:j<n):((xs.drop k).take n).getD j 0=xs.getD (k+j) 0:=by simp[List.getD_eq_getElem?_getD,List.getElem?_take,h,List.getElem?_drop]
structure Ctx (xs CN:List Nat) (i:Nat):Prop where
  len:CN.length=256
  get:∀v,v<256→CN.getD v 0=(xs.take i).count v
theorem Ctx.begin {xs:List Nat}:Ctx xs (List.replicate 256 0) 0:=⟨List.length_replicate,fun v _=>by rw[og,List.take_zero];rfl⟩
theorem Ctx.step {xs CN:List Nat} {i c:Nat} (h:Ctx xs CN i) (hi:i<xs.length) (hc:c=xs.getD i 0) (CD:c<256):Ctx xs (CN.set c (CN.getD c 0+1)) (i+1):=by
  have hl:=h.len;refine⟨by simp[hl],fun v hv=>?_⟩;rw[aM Om,jM hi, ←hc];split
  · rename_i e;rw[←e,h.get c CD]
  · rename_i e;rw[h.get v hv];rfl
theorem Ctx.le {xs CN:List Nat} {i:Nat} (h:Ctx xs CN i) (hi:i≤xs.length) {v:Nat} (hv:v<256):CN.getD v 0≤i:=by
  rw[h.get v hv];refine Nat.le_trans List.count_le_length ?_;rw[List.length_take];omega
theorem Ctx.pos {xs CN:List Nat} (h:Ctx xs CN xs.length) (hb:Bytes xs) {c:Nat} (hc:c ∈ xs):CN.getD c 0≠0:=by
  rw[h.get c (hb c hc),List.take_length];have:=List.count_pos_iff.2 hc;omega
structure WE (ls xs zs:List Nat):Prop where
  bytes:Bytes zs
  len:zs.length=tN (p5 ls) xs/8+1
  val:tailV zs 0 (tN (p5 ls) xs/8+1)=2^tN (p5 ls) xs+bitsV (codeBits ls xs)
theorem P4.sub {ls xs ys:List Nat} (h:P4 ls xs) (hs:∀c ∈ ys,c ∈ xs):P4 ls ys:=⟨fun c hc=>h.len c (hs c hc),fun c hc=>h.lt c (hs c hc)⟩
def Ek (xs:List Nat) (sg j:Nat):List Nat:=(xs.drop (j*sg)).take sg
theorem xc {xs:List Nat} {sg j c:Nat} (h:c ∈ Ek xs sg j):c ∈ xs:=List.mem_of_mem_drop (List.mem_of_mem_take h)
structure P5 (ls xs:List Nat) (sg i:Nat) (Y:List (List Nat)):Prop where
  len:Y.length=i
  get:∀j,j<i→WE ls (Ek xs sg j) (Y.getD j [])∧(Y.getD j []).length≤65535
theorem P5.begin {ls xs:List Nat} {sg:Nat}:P5 ls xs sg 0 []:=⟨rfl,fun j h=>Om⟩
theorem LP {α:Type} {Y:List α} {y d:α}:(Y++[y]).getD Y.length d=y:=by simp[List.getD_eq_getElem?_getD]
theorem Fl {α:Type} {Y:List α} {y d:α} {j:Nat} (h:j<Y.length):(Y++[y]).getD j d=Y.getD j d:=by simp[List.getD_eq_getElem?_getD,List.getElem?_append_left h]
theorem P5.step {ls xs:List Nat} {sg i:Nat} {Y:List (List Nat)} {y:List Nat} (h:P5 ls xs sg i Y) (hy:WE ls (Ek xs sg i) y) (hl:y.length≤65535):P5 ls xs sg (i+1) (Y++[y]):=by
  have hL:=h.len;refine⟨by simp[hL],fun j hj=>?_⟩;by_cases e:j=i
  · rw[e, ←hL,LP,hL];exact⟨hy,hl⟩
  · rw[Fl Om];exact h.get j Om
theorem qY {Y:List (List Nat)} {y:List Nat}:(Y++[y]).flatten=Y.flatten++y:=by simp
theorem Rd.as {q:Option Addr} {n:Nat} {k:IntKind} {xs ys:List Nat} {s:aU} {j:Nat} (h:Rd q n 1 (aa k xs) s j) (e:xs=ys):Rd q n 1 (aa k ys) s j:=e▸h
theorem An {xs:List Nat} {sg i n t:Nat} (hn:n=xs.length-i*sg) (h1:t≤n) (h2:t=sg∨t=n) (h3:t≤sg):((xs.drop (i*sg)).drop t).take (n-t)=xs.drop ((i+1)*sg):=by
  rw[List.take_of_length_le Oz,List.drop_drop,Nat.add_mul,Nat.one_mul];rcases h2 with h|h
  · rw[h]
  · by_cases e:t=sg
    · rw[e]
    · rw[List.drop_of_length_le Om,List.drop_of_length_le Om]
theorem LQ {xs:List Nat} {sg i n:Nat} (hn:n=xs.length-i*sg) (h:n≤sg):xs.drop (i*sg)=Ek xs sg i:=(List.take_of_length_le Oz).symm
def Ao (ls xs zs:List Nat):Prop:=∃Y,P5 ls xs ((xs.length+3)/4) 4 Y∧zs=hz Y++Y.flatten
def okV (ok:Bool) (v:Value):Value:=match ok with
  |true=>v
  |false=>.slice none 0 0
theorem WG:Array.range 6= #[0,1,2,3,4,5]:=by decide
theorem Ap:∀{xs:List Nat},Bytes xs→sm (fun v=>xs.count v) 256=xs.length
  |[],_=>by
    have:sm (fun v=>([]:List Nat).count v) 256=sm (fun _=>0) 256:=cg fun i _=>by simp
    rw[this,gP];rfl
  |x::xs,h=>by
    have h1:sm (fun v=>(x::xs).count v) 256=sm (fun v=>xs.count v+(if v=x then 1 else 0)) 256:=cg fun i _=>by
      rw[List.count_cons];by_cases e:i=x
      · rw[if_pos e,if_pos (by rw[e];exact beq_self_eq_true x)]
      · rw[if_neg e,if_neg (by simpa using fun h=>e h.symm)]
    rw[h1,wZ,Ap (fun y hy=>h y (List.mem_cons_of_mem _ hy)),yc (h x List.mem_cons_self)]
    rfl
section
variable {xs CN:List Nat} {n iy mx sy:Nat}
theorem Ctx.sum (h:Ctx xs CN n) (hn:xs.length=n) (hb:Bytes xs):sm (pH CN) 256=n:=by
  rw[←hn, ←Ap hb];refine cg fun i hi=>?_
  show CN.getD i 0=_;rw[h.get i hi, ←hn,List.take_length]
theorem Ctx.max (h:Ctx xs CN n) (hn:xs.length=n) (hb:Bytes xs) (hc:uo CN 256 iy mx sy):mx≤n∧(0<n→1≤mx):=by
  have hle:∀v,v<256→CN.getD v 0≤n:=fun v hv=>h.le Om hv
  refine⟨?_,fun h0=>?_⟩
  · rcases hc.me with e|⟨x,hx,e⟩
    · omega
    · have:=hle x hx;omega
  · have hm:xs.getD 0 0 ∈ xs:=ix Om;have h1:=h.le (i:=n) Om (hb _ hm);have h2:=hc.mb _ (hb _ hm);have h3:CN.getD (xs.getD 0 0) 0≠0:=by
      have h':=h;rw[←hn] at h';exact h'.pos hb hm
    omega
theorem Ctx.two (h:Ctx xs CN n) (hn:xs.length=n) (hb:Bytes xs) (hc:uo CN 256 iy mx sy) (h0:0<n) (hm:mx<n):∃a b,a≠b∧a<256∧b<256∧CN.getD a 0≠0∧CN.getD b 0≠0:=by
  have h':=h;rw[←hn] at h';have h1:=(h.max hn hb hc).2 h0;rcases hc.me with e|⟨x,hx,e⟩
  · omega
  · have hcx:xs.count x=mx:=by rw[←e,h'.get x hx,List.take_length]
    have:¬∀b ∈ xs,x=b:=fun ha=>by
      have:=List.count_eq_length.2 ha;omega
    obtain⟨b,yZ,tS⟩:∃b,b ∈ xs∧x≠b:=by
      apply Classical.byContradiction;intro EN;exact this fun b y0=>by
        apply Classical.byContradiction;intro h5;exact EN ⟨b,y0,h5⟩
    exact⟨x,b,tS,hx,hb b yZ,Om,h'.pos hb yZ⟩
theorem rJ.cds {ls:List Nat} {R la:Nat} {ys:List Nat} (h:rJ CN ls R la ys) (hC:Ctx xs CN n) (hn:xs.length=n) (hb:Bytes xs):P4 ls xs:=by
  have hC':=hC;rw[←hn] at hC';have g:∀c ∈ xs,1≤ls.getD c 0:=fun c hc=>h.has c (hb c hc) (hC'.pos hb hc)
  exact⟨fun c hc=>⟨g c hc,h.wh.2.1.at_ c⟩,fun c hc=>(RW h.hw h.wh (g c hc)).2⟩
theorem gE.cds {T:List (Nat × Nat)} {sl R:Nat} (h:gE CN T sl R) (hco:Hj T sl) (hC:Ctx xs CN n) (hn:xs.length=n) (hb:Bytes xs) (kL:sl≤256) (hz:∀x,sl≤x→x<256→CN.getD x 0=0):∀c ∈ xs,T.getD c (0,0)=(l4 (jz T sl) c,(jz T sl).getD c 0):=fun c hc=>by
  have hC':=hC;rw[←hn] at hC';have h0:=hC'.pos hb hc;have Ed:c<sl:=by
    apply Classical.byContradiction;intro EN;exact h0 (hz c Om (hb c hc))
  have h1:=(h.some c Ed h0).1;rw[fc kL,if_pos Ed, ←hco c Ed h1]
end
def Pt (a:Addr) (s:aU):Prop:=s.b=a.block∧a.spot=none∧∃m,s.o+m=a.off∧m<s.cs.length
def LR (a0 a1 a2 a:Addr) (N:aU):Prop:=a=a0∨a=a1∨a=a2∨Pt a N
end Go.Proofs.YtekcchgffhphbaaGreatDoor
namespace Go.Proofs.YtekcchgffhphbaaGreatDoor
open Go
end Go.Proofs.YtekcchgffhphbaaGreatDoor
namespace Go.Proofs.YtekcchgffhphbaaGreatDoor
section
variable {P:Program} {K:Kx} {Q:Exit→Act→World→Prop} {ρ:ba} {l r:List aU} {o:Oper} {v:Value} {x y z:Operand} {t e n m cap q:Nat} {k:IntKind}
theorem al5 {fn:Fn} {first cap:Array Operand} {fs:List Value} (ho:o.op=.makeFunc fn first cap) (hf:evs ρ first.toList=some fs) (hc:cap= #[]):bB P ρ o (.func fn fs.toArray #[]):=fun ac ha w=>by
  have h1:first.map ac.eval=fs.toArray:=by
    have:=pT ha _ _ hf;apply Array.toList_inj.1;simpa using this
  subst hc;simp[execOp,ho,Instr.makeFunc,h1,Sem.run_pure]
theorem R0 {c:Call} {f:FuncId} {args fs:List Value} {cal:Operand} {lc rest rc:List aU} {ee:Value→List aU→Prop} {d:Nat} (is rs:List Nat) (uX:bI P f (fs++args) lc rc ee) (ho:o.op=.call c) (hf:c.callee=.value cal) (al6:ev ρ cal=some (.func (.func f) fs.toArray #[])) (jZ:evs ρ c.args.toList=some args)
    (hl:pickS is l=some (lc,rest)) (hr:pickR rs (rest++r)=some rc) (hd:o.dst=some d) (hn:Nat.blt d K.n=true):
    oL P K ρ l r o (fun ρ' l'=>∃v wB,ee v wB∧ρ'=(d,v)::ρ∧l'=wB++rest):=by
  intro a w ha nx Q px;have hA:=ha.perm (my _ _ _ _ hl);have Jb:=u6 _ _ _ hr;have hca:=uX.run w (hA.st.Km Jb);have kS:(c.args.map a.eval)=args.toArray:=by
    have:=pT ha.fr _ _ jZ;apply Array.toList_inj.1;simpa using this
  have aeg:=bU ha.fr al6;have e:(execOp a.eval o).run P w=.ok (.enter f (fs++args).toArray) w:=by
    have hcf:=oR uX.can;simp[execOp,ho,resolve,hf,kS,aeg,Deferred.ofValue,invoke,hcf]
  unfold Oper.wp;rw[e];simp only[Oper.upon];refine hca.mono fun e w' hE=>?_
  obtain⟨v,wB,rfl,hP,hk,jl,Cv⟩:=hE.out;simp only[hd];exact px _ _ ⟨(d,v)::ρ,wB++rest,⟨v,wB,hP,rfl,rfl⟩,(hA.u7 Jb hk jl Cv).put hn v⟩
theorem nw {ca:Call} {q q2:Option Addr} {b o' c2 e qL d:Nat} {cs zs:List Value} {xs ys:List Nat} {sh:Option (TypeId × Nat)} (i:Nat) (ho:o.op=.call ca) (hc:ca.callee=.builtin .append) (jZ:evs ρ ca.args.toList=some [.slice q n cap,.slice q2 m c2]) (yY:ca.argTypes= #[t,t]) (hP:gM P t=some (e,zs,1,qL)) (hz:zs.length=1)
    (hs:nthS i l=some ⟨b,o',cs,sh⟩) (hg:GS q b o' cs 1 cap) (hp:cs.take n=aa .u8 xs) (vd:Src l r q2 (aa .u8 ys)) (LM:cap≤9223372036854775807) (hn:n≤cap∧(n+m)*qL≤140737488355328∧n+m≤9223372036854775807∧ys.length=m) (hd:o.dst=some d) (wo:Nat.blt d K.n=true):
    oL P K ρ l r o (fun ρ' l'=>∃q' b' Eg kd ig,GS q' b' Eg kd 1 ig∧n+m≤ig∧kd.take (n+m)=aa .u8 (xs++ys)∧ig≤9223372036854775807∧ρ'=(d,.slice q' (n+m) ig)::ρ∧l'=setS i ⟨b',Eg,kd,none⟩ l):=by
  intro a w ha nx Q px;refine w7 (K:=K) i ho hc jZ yY hP hz hs hg hp vd LM hn hd wo a w ha nx Q fun a' w' ⟨ρ',l',⟨q',b',Eg,kd,ig,O,h1,h2,h3,h4,h4',h5,h6⟩,h7⟩=>?_
  subst h6;exact px a' w' ⟨ρ',_,⟨q',b',Eg,kd,ig,h1,h2,h3,h4',h5,rfl⟩,h7.tl⟩
end
variable {P:Program} {ρ:ba} {o:Oper} {x y:Operand}
section
variable {P:Program} {w:World}
theorem ym {a:Addr} {c:Array Value} {T:TypeId} {f:Nat × Nat} (h:w.heap[a.block]? =some (.cells c T f)):(noView a).run P w=.ok () w:=by
  have hs:w.shape? a.block=some (T,c.size):=by simp[World.shape?,h]
  simp[noView,viewAt,hs]
theorem rL (a:Addr):∃b,(stringish a).run P w=.ok b w:=by
  cases hf:w.frozen? a with
  |true=>exact⟨true,by simp[stringish,hf]⟩
  |false=>
    cases hs:w.shape? a.block with
    |none=>exact⟨false,by simp[stringish,hf,hs]⟩
    |some x=>exact⟨w.frozen? ⟨a.block,x.2,none⟩,by simp[stringish,hf,hs]⟩
theorem BA (a b:Addr):∃x,(mayBeOne a b).run P w=.ok x w:=by
  obtain⟨s,hs⟩:=rL (P:=P) (w:=w) a;obtain⟨t,ht⟩:=rL (P:=P) (w:=w) b;exact⟨_,by simp only[mayBeOne,Sem.run_bind,hs,ht,run_shape,Result.andThen_ok,Sem.run_pure];rfl⟩
theorem BB {a b:Addr} {ca cb:Array Value} {Ta Tb:TypeId} {fa fb:Nat × Nat} (ha:w.heap[a.block]? =some (.cells ca Ta fa)) (hb:w.heap[b.block]? =some (.cells cb Tb fb)) (hf:w.frozen? a=false):∃x w',(sameAddr a b).run P w=.ok x w'∧(w'=w∨w'=w.drew):=by
  by_cases e:a.block=b.block
  · exact⟨a==b,w,by simp[sameAddr,e],.inl rfl⟩
  · obtain⟨m,hm⟩:=BA (P:=P) (w:=w) a b;have h1:=ym (P:=P) ha;have h2:=ym (P:=P) hb;cases m with
    |false=>exact⟨false,w,by simp[sameAddr,e,hf,h1,h2,hm],.inl rfl⟩
    |true=>exact⟨_,w.drew,by simp[sameAddr,e,hf,h1,h2,hm];rfl,.inr rfl⟩
theorem LS {ti tp te:TypeId} {ms:Array (String × TypeId)} {i j:TypeInfo} {a b:Addr} {x:Bool} {w':World} (hi:P.underlying ti=some (.interface ms)) (hp:P.underlying tp=some (.pointer te)) (aeh:P.info? tp=some i) (aei:i.comparable=true) (hte:P.info? te=some j) (wT:j.size≠0) (h:(sameAddr a b).run P w=.ok x w'):
    (binOp .eql ti (.iface tp (.pointer (some a))) (.iface tp (.pointer (some b)))).run P w=.ok (.bool x) w':=by
  have h2:∀d:Nat,(Op.equalIn (d+2) ti (.iface tp (.pointer (some a))) (.iface tp (.pointer (some b)))).run P w=.ok x w':=fun d=>by
    simp[Op.equalIn,run_underlying hi,run_underlying hp,typeInfo,aeh,aei,sizeOf,hte,wT,h]
  simp only[binOp];simp[Op.equal,Op.maxDepth,h2 9998]
theorem Fm {a:Addr} {v:Value} (h:w.cell? a=some v):∃c T f,w.heap[a.block]? =some (.cells c T f):=by
  unfold World.cell? at h;cases hb:w.heap[a.block]? with
  |none=>simp[hb] at h
  |some o=>cases o<;>simp[hb] at h<;>exact⟨_,_,_,rfl⟩
end
section
variable {P:Program} {K:Kx} {Q:Exit→Act→World→Prop} {ρ:ba} {l r:List aU} {o:Oper} {x y:Operand}
theorem Aq {w:World} {s:aU} {j:Nat} (h:s.pE w) (hj:j<s.cs.length):(∃c T f,w.heap[s.b]? =some (.cells c T f))∧w.frozen? ⟨s.b,s.o+j,none⟩=false:=by
  have h1:=h.1 j _ (List.getElem?_eq_getElem hj);exact⟨Fm h1,h.2.1 j hj⟩
theorem Fo {ms:Array (String × TypeId)} {b q c u tp te ty cT d i j m n:Nat} {s t:aU} (ho:o.op=.binOp .eql ty x y cT) (hx:ev ρ x=some (.iface tp (.pointer (some ⟨b,q,none⟩)))) (hy:ev ρ y=some (.iface tp (.pointer (some ⟨c,u,none⟩)))) (hu:P.underlying ty=some (.interface ms)) (hp:P.underlying tp=some (.pointer te)) (hc:(P.info? tp).map (·.comparable)=some true) (hz:(P.info? te).map (fun z=>Nat.blt 0 z.size)=some true)
    (hi:nthS i r=some s) (hs:s.b=b∧s.o+m=q∧m<s.cs.length) (hj:nthS j r=some t) (ht:t.b=c∧n<t.cs.length) (hd:o.dst=some d) (hn:Nat.blt d K.n=true):
    oL P K ρ l r o (fun ρ' l'=>∃z:Bool,ρ'=(d,.bool z)::ρ∧l'=l):=by
  obtain⟨i1,Rv,C1⟩:=Option.map_eq_some_iff.1 hc;obtain⟨j1,hj1,hj2⟩:=Option.map_eq_some_iff.1 hz;have wT:j1.size≠0:=by simp[Nat.blt] at hj2;omega
  intro a w ha nx Q px;have h1:=Aq (ha.st.hr s (ed _ _ _ hi)) hs.2.2;have h2:=Aq (ha.st.hr t (ed _ _ _ hj)) ht.2;rw[hs.1,hs.2.1] at h1;rw[ht.1] at h2;obtain⟨⟨c1,T1,f1,e1⟩,g1⟩:=h1;obtain⟨⟨c2,T2,f2,e2⟩,g2⟩:=h2;obtain⟨z,w',hr,hw⟩:=BB (P:=P) (w:=w) (a:=⟨b,q,none⟩) (b:=⟨c,u,none⟩) e1 e2 g1;have hg:(eqGuard .eql ty x y (.iface tp (.pointer (some ⟨b,q,none⟩))) (.iface tp (.pointer (some ⟨c,u,none⟩)))).run P w=.ok () w:=by
    unfold eqGuard;simp
  have hq:=LS hu hp Rv C1 hj1 wT hr;have e:(execOp a.eval o).run P w=.ok (.value (.bool z)) w':=by
    simp only[execOp,ho,bU ha.fr hx,bU ha.fr hy,Sem.run_bind,hg,hq,Result.andThen_ok,Sem.run_pure]
  unfold Oper.wp;rw[e];simp only[Oper.upon,hd];refine px _ _ ⟨_,_,⟨z,rfl,rfl⟩,?_⟩;rcases hw with rfl|rfl
  · exact ha.put hn _
  · exact ha.drew.put hn _
end
theorem bI.part {P:Program} {f:FuncId} {args:List Value} {l r:List aU} {ee:Value→List aU→Prop} {s t:aU} (ks:∀w:World,s.pE w→t.pE w) (nU:∀b j:Nat,t.has b j→s.has b j) (h:bI P f args l (t::r) ee):bI P f args l (s::r) ee:=by
  refine⟨h.can,fun w jl=>?_⟩;have VR:St l (t::r) w:=⟨jl.hl,fun x hx=>by
    rcases List.mem_cons.1 hx with h'|h'
    · subst h';exact ks w (jl.hr _ List.mem_cons_self)
    · exact jl.hr x (List.mem_cons_of_mem _ h'),jl.pw,fun x hx y hy=>by
    rcases List.mem_cons.1 hy with h'|h'
    · subst h';exact fun b' j h1 h2=>jl.lr x hx _ List.mem_cons_self b' j h1 (nU b' j h2)
    · exact jl.lr x hx y (List.mem_cons_of_mem _ h')⟩
  refine(h.run w VR).mono fun e w' ⟨v,l',h1,h2,h3,h4,h5⟩=>⟨v,l',h1,h2,h3,⟨h4.hl,?_,h4.pw,?_⟩,h5⟩
  · intro x hx;exact(jl.hr x hx).Jt h3 fun t ht=>jl.lr t ht x hx
  · intro x hx y hy;intro b' j h6 h7;rcases h5 x hx b' j h6 with ⟨u,hu,TD⟩|wq
    · exact jl.lr u hu y hy b' j TD h7
    · have:=(jl.hr y hy).lt h7;omega
theorem bI.rd {P:Program} {f:FuncId} {args:List Value} {l r:List aU} {ee:Value→List aU→Prop} {q:Option Addr} {n j:Nat} {row:List Value} {s:aU} (hR:Rd q n 1 row s j) (h0:0<n) (h:bI P f args l (⟨s.b,s.o+j,row,none⟩::r) ee):bI P f args l (s::r) ee:=by
  have hl:=hR.len;have hle:j+row.length≤s.cs.length:=by
    have h1:=congrArg List.length hR.cs;rw[List.length_take,List.length_drop] at h1;omega
  refine bI.part (t:=⟨s.b,s.o+j,row,none⟩) (fun w hw=>⟨fun i v hi=>?_,fun i hi=>?_,fun x hx=>by cases hx⟩) (fun b i h1=>⟨h1.1,?_,?_⟩) h
  · have fg:i<row.length:=(List.getElem?_eq_some_iff.1 hi).1;have:=hw.1 (j+i) v (by rw[hR.get fg];exact hi);show w.cell? ⟨s.b,s.o+j+i,none⟩=some v;rw[Nat.add_assoc];exact this
  · show w.frozen? ⟨s.b,s.o+j+i,none⟩=false;have hi':i<row.length:=hi;rw[Nat.add_assoc];exact hw.2.1 (j+i) Om
  · have h2:s.o+j≤i:=h1.2.1;omega
  · have h2:i<s.o+j+row.length:=h1.2.2;omega
theorem sH {Y:List (List Nat)} {i:Nat} (h:i<Y.length):(Y.drop i).flatten=Y.getD i []++(Y.drop (i+1)).flatten:=by
  rw[List.drop_eq_getElem_cons h,List.flatten_cons];simp[List.getD_eq_getElem?_getD,List.getElem?_eq_getElem h]
theorem WH {Y:List (List Nat)} {Q:List Nat} {i:Nat} (hY:Y.length=4) (hi:i<3):(hz Y++Q).getD (2*i) 0=(Y.getD i []).length%256∧(hz Y++Q).getD (2*i+1) 0=(Y.getD i []).length/2^8:=by
  rcases Y with _|⟨a,_|⟨b,_|⟨c,_|⟨d,_|⟨e,Y⟩⟩⟩⟩⟩;all_goals simp at hY
  have:i=0∨i=1∨i=2:=Om;rcases this with rfl|rfl|rfl<;>exact⟨rfl,rfl⟩
theorem WI {n:Nat}:(n%256|||n/2^8*2^8)=n:=by
  have:=Nat.two_pow_add_eq_or_of_lt (b:=n%256) (i:=8) (Nat.mod_lt _ Od) (n/2^8);rw[Nat.or_comm,Nat.mul_comm, ←this];omega
theorem It {Y:List (List Nat)} {i n:Nat} (h:i<Y.length) (hn:n=(Y.getD i []).length):((Y.drop i).flatten).take n=Y.getD i []:=by
  rw[sH h,hn,List.take_left' rfl]
theorem Iu {Y:List (List Nat)} {i n m:Nat} (h:i<Y.length) (hn:n=(Y.getD i []).length) (hm:m=((Y.drop i).flatten).length):(((Y.drop i).flatten).drop n).take (m-n)=(Y.drop (i+1)).flatten:=by
  rw[hm,sH h,hn,List.drop_left' rfl,List.length_append,Nat.add_sub_cancel_left,List.take_length]
theorem om {Y:List (List Nat)} {i:Nat} (h:i<Y.length):((Y.drop i).flatten).length=(Y.getD i []).length+((Y.drop (i+1)).flatten).length:=by
  rw[sH h,List.length_append]
theorem Iv {Y:List (List Nat)} (h:Y.length=4):((Y.drop 3).flatten).length=(Y.getD 3 []).length:=by
  rw[om Om,List.drop_of_length_le Om];rfl
theorem Iw {Y:List (List Nat)} (h:Y.length=4):(Y.drop 4).flatten=[]:=by
  rw[List.drop_of_length_le Om];rfl
theorem P5.ten {ls xs:List Nat} {sg:Nat} {Y:List (List Nat)} (h:P5 ls xs sg 4 Y):4≤Y.flatten.length:=by
  have hL:=h.len;have g:∀j,j<4→1≤(Y.getD j []).length:=fun j hj=>by rw[(h.get j hj).1.len];omega
  have e:Y.flatten=(Y.drop 0).flatten:=rfl;have h0:((Y.drop 0).flatten).length=(Y.getD 0 []).length+((Y.drop 1).flatten).length:=om Om;have h1:((Y.drop 1).flatten).length=(Y.getD 1 []).length+((Y.drop 2).flatten).length:=om Om;have h2:((Y.drop 2).flatten).length=(Y.getD 2 []).length+((Y.drop 3).flatten).length:=om Om;have h3:((Y.drop 3).flatten).length=(Y.getD 3 []).length+((Y.drop 4).flatten).length:=om Om;have g0:=g 0 Om;have g1:=g 1 Om;have g2:=g 2 Om;have g3:=g 3 Om;rw[e];omega
theorem WJ {xs:List Nat} {sg i fr hi n:Nat} (hn:xs.length=n) (hf:fr=i*sg) (hh:hi=min (fr+sg) n) (hle:fr≤n):(xs.drop fr).take (hi-fr)=Ek xs sg i:=by
  unfold Ek;rw[←hf];by_cases h:fr+sg≤n
  · rw[show hi-fr=sg by omega]
  · rw[List.take_of_length_le Oz,List.take_of_length_le Oz]
end Go.Proofs.YtekcchgffhphbaaGreatDoor
