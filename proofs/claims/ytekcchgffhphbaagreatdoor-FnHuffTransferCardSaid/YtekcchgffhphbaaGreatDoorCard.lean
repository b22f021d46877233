/- For every pair of texts that the law's guards let in, the data of the first one and those of the second, compressed with the table that is handed on, are both decompressed with this table to their texts; what is told else is one of the kinds, and nothing of what came in is changed.
Conditions: those of the given statement, and no others. -/
import Derived.Test.YtekcchgffhphbaaGreatDoorQH
import Derived.Test.YtekcchgffhphbaaGreatDoorTie
import Derived.Test.YtekcchgffhphbaaGreatDoorCards
import Derived.ProofKit
import Derived.Carry
import Derived.WideKeyPair
import Derived.WideKeyArgs
import Derived.LaidMore
import Derived.OpenShut
import Derived.Stop.Joined
import Derived.Stop.LaidErr
import Derived.Lib.LaidTab
import Derived.MakeChecks
import Derived.SevenTiedAt
set_option linter.unusedVariables false
set_option linter.unusedSimpArgs false
set_option maxRecDepth 100000
namespace Go.Proofs.YtekcchgffhphbaaGreatDoor
open Go Go.Proofs.YtekcchgffhphbaaGreatDoor
open Go.ChangeShapes Go.WideShapes Go.ChangeAt Go.RowKit Go.WideElems Go.WideMaps Go.Lib
theorem abU:ownKnob Tryz.prog.godebug=none:=by kernel_rfl
theorem abV:laidOutB Tryz.prog=true:=by kernel_rfl
theorem ZP:Tryz.prog.cellsOf 5=1:=by kernel_rfl
section
variable {H:Type} {enc:TypeId × Value→H}
theorem z6 (W:World):(⟨0,0,[],none⟩:au).oz W:=⟨fun j v h=>by simp at h,fun j h=>by simp at h,fun x h=>by cases h⟩
/-- a slice of numbers that came in -/
theorem Di {W:World} {base:Nat} {v:Value} {d:DataW H} {p:List MemPlace} {t e:TypeId} {k:IntKind} (ht:Tryz.prog.underlying t=some (.slice e)) (he:Tryz.prog.underlying e=some (.int k)) (ld:Tryz.prog.cellsOf e=1) (hk:∀z,(Lit.int k z).wf=true→0≤z) (gV:Value.okWide Tryz.prog W .any base t v) (h:DataW.Trod enc Tryz.prog W 0 (fun _=>true) true t v d p) (hfz:∀b off,MemPlace.cell b off ∈ p→W.frozen? ⟨b,off,none⟩=false):
    (∃q n cap xs s j,v=.slice q n cap∧Rd q n 1 (aa k xs) s j∧(∀x ∈ xs,(Lit.int k ((x:Nat):Int)).wf=true)∧(0<n→PA q cap)∧n≤cap∧s.oz W)∧∀x ∈ p,∃b o,x=MemPlace.cell b o:=by
  obtain⟨a1,len,cap,rfl⟩:=okWide_slice ht gV;obtain⟨fuel,hf⟩:=h;rcases open_ints ht he ld hf with ⟨zu,hx⟩|⟨a,aHA,gk,zs,zu,_,hl,hm,hz,hx,vD,ZQ⟩
  · simp[Value.cells] at zu;obtain⟨rfl,rfl,rfl⟩:=zu;simp only[Prod.mk.injEq] at hx;obtain⟨rfl,rfl⟩:=hx;exact⟨⟨none,0,0,[],⟨0,0,[],none⟩,0,rfl,Rd.nil rfl,fun x hx=>by(simp at hx),fun h=>Om,Nat.le_refl _,z6 W⟩,fun x hx=>by simp at hx⟩
  · simp[Value.cells] at zu;obtain⟨rfl,rfl,rfl⟩:=zu;simp only[Prod.mk.injEq] at hx;obtain⟨rfl,rfl⟩:=hx;simp only[if_true] at hz;refine⟨?_,fun x hx=>by
      simp only[MemPlace.row,List.mem_map] at hx;obtain⟨i,_,rfl⟩:=hx;exact⟨_,_,rfl⟩⟩
    by_cases hc:cap=0
    · have uz:len=0:=Om;subst uz;exact⟨some a,0,cap,[],⟨0,0,[],none⟩,0,rfl,⟨rfl,fun h=>Om,rfl⟩,fun x hx=>by(simp at hx),fun h=>Om,Om,z6 W⟩
    · obtain⟨ab,ao,spot⟩:=a;have ajA:spot=none:=by simpa [Addr.add] using World.cell?_spot (vD 0 Om)
      subst ajA;have hnn:∀j:Nat,(0:Int)≤zs[j]?.getD 0:=fun j=>by
        by_cases hj:j<zs.length
        · have:=hk _ (ZQ zs[j] (List.getElem_mem hj));simpa [hj] using this
        · simp[List.getElem?_eq_none (by omega:zs.length≤j)]
      refine⟨some ⟨ab,ao,none⟩,len,cap,(zs.map Int.toNat).take len,⟨ab,ao,aa k (zs.map Int.toNat),none⟩,0,rfl,Rd.abW rfl (by rw[List.drop_zero]) Oz,fun x hx=>?_,fun _=>PA.some,hl,fun j v hj=>?_,fun j hj=>?_,fun x hx=>by cases hx⟩
      · obtain⟨z,CV,rfl⟩:=List.mem_map.1 (List.mem_of_mem_take hx);have h1:=ZQ z CV;have h2:=hk z h1;rw[show((z.toNat:Nat):Int)=z by omega];exact h1
      · have eV:j<zs.length:=by
          have h1:j<(aa k (zs.map Int.toNat)).length:=(List.getElem?_eq_some_iff.1 hj).1;simpa using h1
        have hg:(aa k (zs.map Int.toNat))[j]? =some (.int k (((zs.map Int.toNat).getD j 0:Nat):Int)):=aM (by simpa using eV);have h2:=vD j eV;rw[Addr.add_lit] at h2;have hr:=hnn j;have e:(((zs.map Int.toNat).getD j 0:Nat):Int)=zs.getD j 0:=by
          rw[xj,List.getD_eq_getElem?_getD];omega
        rw[e] at hg;have h3:v=.int k (zs.getD j 0):=Option.some.inj (hj.symm.trans hg);show W.cell? ⟨ab,ao+j,none⟩=some v;rw[h3];exact h2
      · have eV:j<zs.length:=by simpa using hj
        exact hfz ab (ao+j) (by simp only[MemPlace.row,List.mem_map,List.mem_range];exact⟨j,eV,rfl⟩)
end
theorem fH.Wn {W W':World} (h:fH [] W W') (may:MemPlace→Prop):W.keptBut W' may:=by
  refine⟨h.os,h.output,fun i hi=>?_⟩;have hb:W.heap[i]? =some W.heap[i]:=Array.getElem?_eq_getElem hi;rw[hb];cases ho:W.heap[i] with
  |cells c t fr=>
    rw[ho] at hb;obtain⟨c',h1,h2,h3⟩:=h.cells i c t fr hb;rw[h1];exact⟨rfl,rfl,h2,fun j _=>h3 j fun s hs=>by cases hs⟩
  |map es clock=>
    rw[ho] at hb;rw[h.other i _ hb Oi];exact .inr ⟨rfl,rfl⟩
  |_=>
    rw[ho] at hb;rw[h.other i _ hb Oi]
theorem fH.M5 {W W':World} (h:fH [] W W') {b o:Nat} (hb:b<W.heap.size):W'.cell? ⟨b,o,none⟩=W.cell? ⟨b,o,none⟩:=by
  have Lc:W.heap[b]? =some W.heap[b]:=Array.getElem?_eq_getElem hb;unfold World.cell?;cases ho:W.heap[b] with
  |cells c t fr=>
    rw[ho] at Lc;obtain⟨c',h1,h2,h3⟩:=h.cells b c t fr Lc;simp only[Lc,h1];rw[h3 o fun s hs=>by cases hs]
  |_=>
    rw[ho] at Lc;rw[h.other b _ Lc Oi,Lc]

/-- the first variable on the list, as a segment -/
theorem xk {P:Program} {n:String} {d:DataW Unit} {r:List (String × DataW Unit)} {W:World} {g:Nat} {cs:List Value} (h:laidMet P ((n,d)::r) W) (hg:P.globalNamed n=some g) (hv:W.var? P n=some cs.toArray):(⟨g,0,cs,none⟩:au).oz W:=by
  obtain⟨ps,⟨g0,t0,cs0,f0,p0,q0,hg0,VP,rF,hd0,_,e0⟩,_,JI⟩:=h;obtain rfl:=Option.some.inj (hg.symm.trans hg0);obtain rfl:=Option.some.inj (hv.symm.trans rF);subst e0;refine⟨fun j v hj=>?_,fun j hj=>?_,fun x hx=>by cases hx⟩
  · show W.cell? ⟨g,0+j,none⟩=some v;rw[Nat.zero_add,World.var?_cell hg hv j];simpa using hj
  · show W.frozen? ⟨g,0+j,none⟩=false;have CW:j<cs.length:=hj;obtain⟨⟨c,t,hb⟩,_⟩:=JI g j (by
      simp only[List.mem_append];refine .inl (.inl ?_);simp only[MemPlace.row,List.mem_map,List.mem_range];exact⟨j,by simpa using CW,Oi⟩)
    unfold World.frozen?;simp[hb]
theorem abX (u:TypeId) (h:Tryz.prog.typeName? 3 u=some "*errors.errorString"):u=136:=
  typeName_ptr_named (nm:= "errors.errorString") (by rw[show "*" ++ "errors.errorString" = "*errors.errorString" by decide];kernel_rfl) (by kernel_rfl) Od u (by rw[show "*" ++ "errors.errorString" = "*errors.errorString" by decide];exact h)
theorem Wo:Tryz.prog.cellsOf 138=1:=by kernel_rfl
theorem ajB:Tryz.prog.cellsOf 9=1:=by kernel_rfl
theorem oN {W:World} {n:String} {text:List UInt8} {r:List (String × DataW Unit)} {g:Nat} (h:laidMet Tryz.prog ((n,.iface "*errors.errorString" (.ptr (.agg [.lit (.string text)])))::r) W) (hg:Tryz.prog.globalNamed n=some g) (ht:(Tryz.prog.globals[g]?).map (·.type)=some 73):∃(a:Addr) (E:au),(⟨g,0,[.iface 136 (.pointer (some a))],none⟩:au).oz W∧Pt a E∧E.oz W:=by
  have h':=h;obtain⟨ps,⟨g0,t0,cs0,f0,p0,q0,hg0,VP,rF,hd0,_,e0⟩,_,JI⟩:=h;obtain rfl:=Option.some.inj (hg.symm.trans hg0);obtain rfl:=Option.some.inj (ht.symm.trans VP);subst e0;obtain⟨l0⟩:=cs0;have ok0:∀u v,l0=[.iface u v]→Value.okWide Tryz.prog W .any 0 u v:=fun u v e=>by
    subst e;exact(JI g 0 (by simp[MemPlace.row])).2 u v (by simpa using World.var?_cell hg0 rF 0)
  obtain⟨a,s,rfl,hc,_,_,rfl⟩:=errorString_of_trod Tryz.underlying73 abX Tryz.underlying136 Tryz.underlying138 rfl rfl Tryz.underlying9 Wo ajB hd0 ok0;obtain⟨c,t,hb⟩:=(JI a.block a.off (by simp[MemPlace.row])).1;have hsp:=World.cell?_spot hc;refine⟨a,⟨a.block,a.off,[.string s],none⟩,xk h' hg rF,⟨rfl,hsp,0,rfl,Nat.zero_lt_one⟩,⟨fun j v hj=>?_,fun j hj=>?_,fun x hx=>by cases hx⟩⟩
  · have Ld:j=0:=by
      have h1:j<1:=(List.getElem?_eq_some_iff.1 hj).1;omega
    subst Ld;have hv:v=.string s:=(Option.some.inj hj).symm;subst hv;obtain⟨ab,ao,sp⟩:=a;obtain rfl:sp=none:=hsp;exact hc
  · show W.frozen? ⟨a.block,a.off+j,none⟩=false;unfold World.frozen?;simp[hb]
/-- what the walks read of the listed variables -/
theorem M6 {W:World} (h:laidMetH Tryz.prog Rows.fnHuffTransferRow.laid W):∃(a0 a1 a2 a5 a6:Addr) (E0 E1 E2:au),((⟨0,0,[.iface 136 (.pointer (some a0))],none⟩:au).oz W∧Pt a0 E0∧E0.oz W)∧((⟨1,0,[.iface 136 (.pointer (some a1))],none⟩:au).oz W∧Pt a1 E1∧E1.oz W)∧((⟨2,0,[.iface 136 (.pointer (some a2))],none⟩:au).oz W∧Pt a2 E2∧E2.oz W)∧(⟨6,0,[.iface 136 (.pointer (some a5))],none⟩:au).oz W∧(⟨7,0,[.iface 136 (.pointer (some a6))],none⟩:au).oz W∧(⟨9,0,aa .u16 fZ,none⟩:au).oz W∧(⟨8,0,aa .u32 m8,none⟩:au).oz W:=by
  rw[MakeChecks.laidMetH_plain _ _ _ (by kernel_rfl)] at h;have h1:=h.tail;have h2:=h1.tail;have h3:=h2.tail;have h4:=h3.tail;have h5:=h4.tail;have h6:=h5.tail;have h7:=h6.tail;have m1:=tabIs_of_head (name:= "pub-pemmican/pub/compress/fse.bitMask16") (k:=.u16) (zs:=fZ.map fun n=>((n:Nat):Int)) (g:=9) (by kernel_rfl) (t:=217) (e:=58) (n:=32) (by kernel_rfl) Tryz.underlying217 Tryz.underlying58 (by kernel_rfl) (by kernel_rfl) h1
  have m2:=tabIs_of_head (name:= "pub-pemmican/pub/compress/fse.rtbTable") (k:=.u32) (zs:=m8.map fun n=>((n:Nat):Int)) (g:=8) (by kernel_rfl) (t:=202) (e:=46) (n:=8) (by kernel_rfl) Tryz.underlying202 Tryz.underlying46 (by kernel_rfl) (by kernel_rfl) h2;obtain⟨a5,_,e5,_⟩:=oN h3 (g:=6) (by kernel_rfl) (by kernel_rfl);obtain⟨a6,_,e6,_⟩:=oN h4 (g:=7) (by kernel_rfl) (by kernel_rfl);obtain⟨a0,E0,e0⟩:=oN h5 (g:=0) (by kernel_rfl) (by kernel_rfl);obtain⟨a1,E1,e1⟩:=oN h6 (g:=1) (by kernel_rfl) (by kernel_rfl);obtain⟨a2,E2,e2⟩:=oN h7 (g:=2) (by kernel_rfl) (by kernel_rfl)
  exact⟨a0,a1,a2,a5,a6,E0,E1,E2,e0,e1,e2,e5,e6,xk h1 (by kernel_rfl) m1,xk h2 (by kernel_rfl) m2⟩
/-- The door's own heap meets the condition. -/
theorem M7 (os:Os) (args:Array Value):laidMetH Tryz.prog Rows.fnHuffTransferRow.laid ((World.doorLaid Tryz.prog 400 os).forCall (fun _ _=>0) ⟨#[],args,[]⟩).memory:=
  laidMetH_of_parts3 (fuel:=8) (laidMet_of_run' 8 (by kernel_rfl) (by kernel_rfl)) (by kernel_rfl) (by kernel_rfl)
theorem Gd (os:Os) (started:os.Started) (H:Type) (enc:TypeId × Value→H):
    ReturnsInHanded {} Tryz.checked os 7 .any (fun w args=>(Rows.fnHuffTransferSpec.pre enc Tryz.prog Tryz.f7 [] false w args∧laidMetH Tryz.prog Rows.fnHuffTransferRow.laid w)∧sizedMet enc Tryz.prog Tryz.f7 (OpenSpec.ofChange Rows.fnHuffTransferSpec) false w args)
      (Rows.fnHuffTransferSpec.post enc Tryz.prog Tryz.f7 false true false false):=by
  refine returnsInHanded_of_change_and (C:=Tryz.checked) (X:=fun w _=>laidMetH Tryz.prog Rows.fnHuffTransferRow.laid w) (fun _ _ _ hh h=>h.of_heap hh) abU started (by kernel_rfl) Tryz.func7
    (ChangeSpec.witness_shaped (enc:=enc) (C:=Tryz.checked) (os:=os) (X:=fun w _=>laidMetH Tryz.prog Rows.fnHuffTransferRow.laid w) false (World.doorLaid Tryz.prog 400 os) #[.slice none 0 0,.slice none 0 0,.bool false] 8 rfl (World.shaped_of_RefB (by kernel_rfl) (by kernel_rfl)) (by kernel_rfl) (by kernel_rfl) (by kernel_rfl) (M7 os _)) ?_
  intro W base args ds gs before ZS hW _ _ hL _;have gV:∀(j:Nat) t v,Tryz.f7.params[j]? =some t→args[j]? =some v→Value.okWide Tryz.prog W .any base t v:=ZS;have hW':=hW;obtain⟨p,q,hA0,hV,rfl,hfz,rG⟩:=hW;have hA:DataW.TrodAll enc Tryz.prog W 0 (fun _=>true) true Tryz.f7.params.toList args.toList ds p:=hA0;rw[Tryz.params7] at hA gV;obtain⟨v0,v1,v2,d0,d1,d2,p0,p1,p2,rfl,rfl,rfl,h0,h1,h2⟩:=trodAll_three hA;obtain⟨rfl,rfl⟩:=trodVars_none hV;clear hA0 ZS;obtain⟨four,rfl,rfl,rfl⟩:=open_bool Tryz.underlying4 (gV 2 4 _ rfl rfl) h2;simp only[List.append_nil] at hW' hfz
  obtain⟨⟨qB,nB,cB,xB,sB,jB,rfl,hRB,hBB,hPB,hCB,hIB⟩,hpB⟩:=Di Tryz.underlying22 Tryz.underlying5 ZP (fun z h=>(bounds_u8 h).1) (gV 0 22 _ rfl rfl) h0 fun b off hm=>hfz b off (List.mem_append_left _ hm)
  obtain⟨⟨qD,nD,cD,xD,sD,jD,rfl,hRD,hBD,hPD,hCD,hID⟩,hpD⟩:=Di Tryz.underlying22 Tryz.underlying5 ZP (fun z h=>(bounds_u8 h).1) (gV 1 22 _ rfl rfl) h1 fun b off hm=>hfz b off (List.mem_append_right _ hm)
  obtain⟨a0,a1,a2,a5,a6,E0,E1,E2,⟨i0,p0',j0⟩,⟨i1,p1',j1⟩,⟨i2,p2',j2⟩,i5,i6,i9,i8⟩:=M6 hL;have uJ:=uK four sB qB nB cB jB xB hRB hPB hCB (fun x hx=>by have:=bounds_u8 (hBB x hx);omega) sD qD nD cD jD xD hRD hPD hCD (fun x hx=>by have:=bounds_u8 (hBD x hx);omega) a0 a1 a2 136 136 (.pointer (some a5)) (.pointer (some a6)) E0 E1 E2 p0' p1' p2';refine(uJ.run W ⟨fun s hs=>(by cases hs),fun s hs=>?_,List.Pairwise.nil,fun s hs=>(by cases hs)⟩).mono fun e W' ⟨v,l',he,⟨hv,_⟩,hk,_,_⟩=>?_
  · simp only[List.mem_cons,List.not_mem_nil,or_false] at hs;rcases hs with rfl|rfl|rfl|rfl|rfl|rfl|rfl|rfl|rfl|rfl|rfl|rfl;all_goals assumption
  subst he;subst hv;have hold:∀x ∈ p0++p1,W.sameAt W' x∧x.block<W.heap.size:=fun x hx=>by
    have eV:x.block<W.heap.size:=hW'.lt x (by simpa using hx);refine⟨?_,eV⟩;obtain⟨xb,xo,rfl⟩:=(List.mem_append.1 hx).elim (hpB x) (hpD x);exact hk.M5 eV
  have stay:∀{v:Value} {d:DataW H} {ps:List MemPlace} (t:TypeId),Tryz.prog.readableRec t=true→t<Tryz.prog.types.size→(∀x ∈ ps,x ∈ p0++p1)→DataW.Trod enc Tryz.prog W 0 (fun _=>true) true t v d ps→DataW.Trod enc Tryz.prog W' 0 (fun x=>decide (x<W.heap.size)) true t v d ps:=fun t hr hs mr h=>
    WideElems.Trod_stays (P:=Tryz.prog) abV hr hs h (fun x hx=>(hold x (mr x hx)).1) (fun x hx=>by simpa using (hold x (mr x hx)).2)
  have ajC:Tryz.prog.readableRec 22=true:=by kernel_rfl
  have ajD:(22:Nat)<Tryz.prog.types.size:=of_decide_eq_true (by kernel_rfl);refine⟨_,rfl,[d0,d1,.lit (.bool four)],[],p0++p1++[],[],p0++(p1++[]),[],by simpa using hW',?_,?_,?_,hk.Wn _,fun h=>by cases h⟩
  · exact trodAll_mk1 (shut_bool Tryz.underlying4 true)
  · exact trodAll_mk3 (stay 22 ajC ajD (fun x hx=>List.mem_append_left _ hx) h0) (stay 22 ajC ajD (fun x hx=>List.mem_append_right _ hx) h1) (shut_bool Tryz.underlying4 four)
  · rfl
theorem row_holds:Rows.FnHuffTransferSaid:=
  OpenClaim.holds_of_wide 7 Tryz.f7 rfl rfl rfl rfl rfl rfl rfl ⟨rfl,rfl,rfl,rfl,rfl⟩ rfl rfl rfl rfl rfl (by kernel_rfl) Tryz.func7 (by kernel_rfl)
    (of_decide_eq_true (by kernel_rfl)) (by unfold Func.isWrapper;first|(rw[if_pos (by decide+kernel)];kernel_rfl)|(rw[if_neg (by decide+kernel)];exact⟨rfl,rfl⟩))
    (fun os started H enc _=>Gd os started H enc)
theorem FnHuffTransfer_holds:Rows.FnHuffTransferCardSaid:=
  Claim7.holds_tied_plain_at .later [] [.sentinel,.data,.data,.sentinel,.sentinel,.sentinel,.sentinel,.sentinel,.sentinel] true (true, "e9a115d053e15dc870fc67f6bd84d57cf322c83009f996ada2e669e601d97eb5") true
    row_holds (fun _ h=>by cases h) (by kernel_rfl) (fun _ h=>by cases h) fnHuffTransfer_row_tie rfl ⟨rfl,rfl⟩ (by kernel_rfl) rfl
    (fun f fn hf hfn=>by
      obtain rfl:f=7:=Option.some.inj ((show Tryz.prog.funcNamed "pub-pemmican/laws.FnHuffTransfer" =some 7 by kernel_rfl).symm.trans hf) |>.symm;obtain rfl:fn=Tryz.f7:=(Option.some.inj (Tryz.func7.symm.trans hfn)).symm;exact⟨by kernel_rfl,fun j t ht=>by
        rw[Tryz.params7] at ht;have h3:t=22∨t=4:=by
          rcases j with _|_|_|j;all_goals simp at ht
          all_goals first|exact .inl ht.symm|exact .inr ht.symm|exact .inl ht|exact .inr ht
        rcases h3 with rfl|rfl
        · exact(show Tryz.prog.wantsStandIn 22=false by kernel_rfl)
        · exact(show Tryz.prog.wantsStandIn 4=false by kernel_rfl)⟩)
    (by kernel_rfl)
#print axioms FnHuffTransfer_holds
end Go.Proofs.YtekcchgffhphbaaGreatDoor
