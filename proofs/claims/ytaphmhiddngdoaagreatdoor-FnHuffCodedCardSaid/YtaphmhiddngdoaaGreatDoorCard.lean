/- For every input that the law's guards let in, a text coded with the codes of a table of counts is decompressed with this table to the text: the row and its tied card. No condition is added: the card ties the nine listed variables. -/
import Derived.Test.YtaphmhiddngdoaaGreatDoorQB
import Derived.Test.YtaphmhiddngdoaaGreatDoorTie
import Derived.Test.YtaphmhiddngdoaaGreatDoorCards
import Derived.ProofKit
import Derived.Carry
import Derived.WideKeyPair
import Derived.WideKeyArgs
import Derived.LaidMore
import Derived.OpenShut
import Derived.Stop.Joined
import Derived.Stop.LaidErr
import Derived.Lib.LaidTab
import Derived.MakeChecks
import Derived.SevenTiedAt
set_option linter.unusedVariables false
set_option linter.unusedSimpArgs false
set_option maxRecDepth 100000
namespace Go.Proofs.YtaphmhiddngdoaaGreatDoor
open Go Go.Proofs.YtaphmhiddngdoaaGreatDoor
open Go.ChangeShapes Go.WideShapes Go.ChangeAt Go.RowKit Go.WideElems Go.WideMaps Go.Lib
theorem Ul:ownKnob Tryz.prog.godebug=none:=by kernel_rfl
theorem Um:laidOutB Tryz.prog=true:=by kernel_rfl
theorem acN:Tryz.prog.cellsOf 5=1:=by kernel_rfl
theorem IH:Tryz.prog.cellsOf 26=1:=by kernel_rfl
section
variable {H:Type} {enc:TypeId × Value→H}
theorem yL (W:World):(⟨0,0,[],none⟩:aV).tV W:=⟨fun j v h=>by simp at h,fun j h=>by simp at h,fun x h=>by cases h⟩
/-- a slice of numbers that came in -/
theorem Bk {W:World} {base:Nat} {v:Value} {d:DataW H} {p:List MemPlace} {t e:TypeId} {k:IntKind} (ht:Tryz.prog.underlying t=some (.slice e)) (he:Tryz.prog.underlying e=some (.int k)) (lx:Tryz.prog.cellsOf e=1) (hk:∀z,(Lit.int k z).wf=true→0≤z) (iD:Value.okWide Tryz.prog W .any base t v) (h:DataW.Trod enc Tryz.prog W 0 (fun _=>true) true t v d p) (hfz:∀b off,MemPlace.cell b off ∈ p→W.frozen? ⟨b,off,none⟩=false):
    (∃q n cap xs s j,v=.slice q n cap∧Rd q n 1 (ae k xs) s j∧(∀x ∈ xs,(Lit.int k ((x:Nat):Int)).wf=true)∧(0<n→PA q cap)∧n≤cap∧s.tV W)∧∀x ∈ p,∃b o,x=MemPlace.cell b o:=by
  obtain⟨a1,len,cap,rfl⟩:=okWide_slice ht iD;obtain⟨fuel,hf⟩:=h;rcases open_ints ht he lx hf with ⟨uP,hx⟩|⟨a,aBk,lR,zs,uP,_,hl,hm,hz,hx,Fv,SI⟩
  · simp[Value.cells] at uP;obtain⟨rfl,rfl,rfl⟩:=uP;simp only[Prod.mk.injEq] at hx;obtain⟨rfl,rfl⟩:=hx;exact⟨⟨none,0,0,[],⟨0,0,[],none⟩,0,rfl,Rd.nil rfl,fun x hx=>by(simp at hx),fun h=>Om,Nat.le_refl _,yL W⟩,fun x hx=>by simp at hx⟩
  · simp[Value.cells] at uP;obtain⟨rfl,rfl,rfl⟩:=uP;simp only[Prod.mk.injEq] at hx;obtain⟨rfl,rfl⟩:=hx;simp only[if_true] at hz;refine⟨?_,fun x hx=>by
      simp only[MemPlace.row,List.mem_map] at hx;obtain⟨i,_,rfl⟩:=hx;exact⟨_,_,rfl⟩⟩
    by_cases hc:cap=0
    · have Bl:len=0:=Om;subst Bl;exact⟨some a,0,cap,[],⟨0,0,[],none⟩,0,rfl,⟨rfl,fun h=>Om,rfl⟩,fun x hx=>by(simp at hx),fun h=>Om,Om,yL W⟩
    · obtain⟨ab,ao,spot⟩:=a;have acO:spot=none:=by simpa [Addr.add] using World.cell?_spot (Fv 0 Om)
      subst acO;have hnn:∀j:Nat,(0:Int)≤zs[j]?.getD 0:=fun j=>by
        by_cases hj:j<zs.length
        · have:=hk _ (SI zs[j] (List.getElem_mem hj));simpa [hj] using this
        · simp[List.getElem?_eq_none (by omega:zs.length≤j)]
      refine⟨some ⟨ab,ao,none⟩,len,cap,(zs.map Int.toNat).take len,⟨ab,ao,ae k (zs.map Int.toNat),none⟩,0,rfl,Rd.Un rfl (by rw[List.drop_zero]) Oz,fun x hx=>?_,fun _=>PA.some,hl,fun j v hj=>?_,fun j hj=>?_,fun x hx=>by cases hx⟩
      · obtain⟨z,hz1,rfl⟩:=List.mem_map.1 (List.mem_of_mem_take hx);have h1:=SI z hz1;have h2:=hk z h1;rw[show((z.toNat:Nat):Int)=z by omega];exact h1
      · have eU:j<zs.length:=by
          have h1:j<(ae k (zs.map Int.toNat)).length:=(List.getElem?_eq_some_iff.1 hj).1;simpa using h1
        have hg:(ae k (zs.map Int.toNat))[j]? =some (.int k (((zs.map Int.toNat).getD j 0:Nat):Int)):=af (by simpa using eU);have h2:=Fv j eU;rw[Addr.add_lit] at h2;have hr:=hnn j;have e:(((zs.map Int.toNat).getD j 0:Nat):Int)=zs.getD j 0:=by
          rw[vX,List.getD_eq_getElem?_getD];omega
        rw[e] at hg;have h3:v=.int k (zs.getD j 0):=Option.some.inj (hj.symm.trans hg);show W.cell? ⟨ab,ao+j,none⟩=some v;rw[h3];exact h2
      · have eU:j<zs.length:=by simpa using hj
        exact hfz ab (ao+j) (by simp only[MemPlace.row,List.mem_map,List.mem_range];exact⟨j,eU,rfl⟩)
end
theorem gh.PC {W W':World} (h:gh [] W W') (may:MemPlace→Prop):W.keptBut W' may:=by
  refine⟨h.os,h.output,fun i hi=>?_⟩;have hb:W.heap[i]? =some W.heap[i]:=Array.getElem?_eq_getElem hi;rw[hb];cases ho:W.heap[i] with
  |cells c t fr=>
    rw[ho] at hb;obtain⟨c',h1,h2,h3⟩:=h.cells i c t fr hb;rw[h1];exact⟨rfl,rfl,h2,fun j _=>h3 j fun s hs=>by cases hs⟩
  |map es clock=>
    rw[ho] at hb;rw[h.other i _ hb Oi];exact .inr ⟨rfl,rfl⟩
  |_=>
    rw[ho] at hb;rw[h.other i _ hb Oi]
theorem gh.II {W W':World} (h:gh [] W W') {b o:Nat} (hb:b<W.heap.size):W'.cell? ⟨b,o,none⟩=W.cell? ⟨b,o,none⟩:=by
  have GU:W.heap[b]? =some W.heap[b]:=Array.getElem?_eq_getElem hb;unfold World.cell?;cases ho:W.heap[b] with
  |cells c t fr=>
    rw[ho] at GU;obtain⟨c',h1,h2,h3⟩:=h.cells b c t fr GU;simp only[GU,h1];rw[h3 o fun s hs=>by cases hs]
  |_=>
    rw[ho] at GU;rw[h.other b _ GU Oi,GU]

/-- the first variable on the list, as a segment -/
theorem vY {P:Program} {n:String} {d:DataW Unit} {r:List (String × DataW Unit)} {W:World} {g:Nat} {cs:List Value} (h:laidMet P ((n,d)::r) W) (hg:P.globalNamed n=some g) (hv:W.var? P n=some cs.toArray):(⟨g,0,cs,none⟩:aV).tV W:=by
  obtain⟨ps,⟨g0,t0,cs0,f0,p0,q0,hg0,SJ,vE,hd0,_,e0⟩,_,acP⟩:=h;obtain rfl:=Option.some.inj (hg.symm.trans hg0);obtain rfl:=Option.some.inj (hv.symm.trans vE);subst e0;refine⟨fun j v hj=>?_,fun j hj=>?_,fun x hx=>by cases hx⟩
  · show W.cell? ⟨g,0+j,none⟩=some v;rw[Nat.zero_add,World.var?_cell hg hv j];simpa using hj
  · show W.frozen? ⟨g,0+j,none⟩=false;have hj2:j<cs.length:=hj;obtain⟨⟨c,t,hb⟩,_⟩:=acP g j (by
      simp only[List.mem_append];refine .inl (.inl ?_);simp only[MemPlace.row,List.mem_map,List.mem_range];exact⟨j,by simpa using hj2,Oi⟩)
    unfold World.frozen?;simp[hb]
theorem Uo (u:TypeId) (h:Tryz.prog.typeName? 3 u=some "*errors.errorString"):u=128:=
  typeName_ptr_named (nm:= "errors.errorString") (by rw[show "*" ++ "errors.errorString" = "*errors.errorString" by decide];kernel_rfl) (by kernel_rfl) Od u (by rw[show "*" ++ "errors.errorString" = "*errors.errorString" by decide];exact h)
theorem PD:Tryz.prog.cellsOf 130=1:=by kernel_rfl
theorem acQ:Tryz.prog.cellsOf 9=1:=by kernel_rfl
theorem vZ {W:World} {n:String} {text:List UInt8} {r:List (String × DataW Unit)} {g:Nat} (h:laidMet Tryz.prog ((n,.iface "*errors.errorString" (.ptr (.agg [.lit (.string text)])))::r) W) (hg:Tryz.prog.globalNamed n=some g) (ht:(Tryz.prog.globals[g]?).map (·.type)=some 40):∃a:Addr,(⟨g,0,[.iface 128 (.pointer (some a))],none⟩:aV).tV W:=by
  obtain⟨a,s,hv,_⟩:=laid_sentinel h hg ht Tryz.underlying40 Uo Tryz.underlying128 Tryz.underlying130 rfl rfl Tryz.underlying9 PD acQ;exact⟨a,vY h hg hv⟩
/-- what the walks read of the listed variables -/
theorem IJ {W:World} (h:laidMetH Tryz.prog Rows.fnHuffCodedRow.laid W):∃a0 a5 a6:Addr,(⟨0,0,[.iface 128 (.pointer (some a0))],none⟩:aV).tV W∧(⟨5,0,[.iface 128 (.pointer (some a5))],none⟩:aV).tV W∧(⟨6,0,[.iface 128 (.pointer (some a6))],none⟩:aV).tV W∧(⟨9,0,ae .u16 jJ,none⟩:aV).tV W∧(⟨8,0,ae .u32 qZ,none⟩:aV).tV W:=by
  rw[MakeChecks.laidMetH_plain _ _ _ (by kernel_rfl)] at h;have h1:=h.tail;have h2:=h1.tail;have h3:=h2.tail;have h4:=h3.tail;have h5:=h4.tail;have m1:=tabIs_of_head (name:= "pub-pemmican/pub/compress/fse.bitMask16") (k:=.u16) (zs:=jJ.map fun n=>((n:Nat):Int)) (g:=9) (by kernel_rfl) (t:=209) (e:=57) (n:=32) (by kernel_rfl) Tryz.underlying209 Tryz.underlying57 (by kernel_rfl) (by kernel_rfl) h1
  have m2:=tabIs_of_head (name:= "pub-pemmican/pub/compress/fse.rtbTable") (k:=.u32) (zs:=qZ.map fun n=>((n:Nat):Int)) (g:=8) (by kernel_rfl) (t:=194) (e:=26) (n:=8) (by kernel_rfl) Tryz.underlying194 Tryz.underlying26 IH (by kernel_rfl) h2;obtain⟨a5,e5⟩:=vZ h3 (g:=5) (by kernel_rfl) (by kernel_rfl);obtain⟨a6,e6⟩:=vZ h4 (g:=6) (by kernel_rfl) (by kernel_rfl);obtain⟨a0,e0⟩:=vZ h5 (g:=0) (by kernel_rfl) (by kernel_rfl);exact⟨a0,a5,a6,e0,e5,e6,vY h1 (by kernel_rfl) m1,vY h2 (by kernel_rfl) m2⟩
/-- The door's own heap meets the condition. -/
theorem IK (os:Os) (args:Array Value):laidMetH Tryz.prog Rows.fnHuffCodedRow.laid ((World.doorLaid Tryz.prog 400 os).forCall (fun _ _=>0) ⟨#[],args,[]⟩).memory:=
  laidMetH_of_parts3 (fuel:=8) (laidMet_of_run' 8 (by kernel_rfl) (by kernel_rfl)) (by kernel_rfl) (by kernel_rfl)
theorem Dn (os:Os) (started:os.Started) (H:Type) (enc:TypeId × Value→H):
    ReturnsInHanded {} Tryz.checked os 3 .any (fun w args=>(Rows.fnHuffCodedSpec.pre enc Tryz.prog Tryz.f3 [] false w args∧laidMetH Tryz.prog Rows.fnHuffCodedRow.laid w)∧sizedMet enc Tryz.prog Tryz.f3 (OpenSpec.ofChange Rows.fnHuffCodedSpec) false w args)
      (Rows.fnHuffCodedSpec.post enc Tryz.prog Tryz.f3 false true false false):=by
  refine returnsInHanded_of_change_and (C:=Tryz.checked) (X:=fun w _=>laidMetH Tryz.prog Rows.fnHuffCodedRow.laid w) (fun _ _ _ hh h=>h.of_heap hh) Ul started (by kernel_rfl) Tryz.func3
    (ChangeSpec.witness_shaped (enc:=enc) (C:=Tryz.checked) (os:=os) (X:=fun w _=>laidMetH Tryz.prog Rows.fnHuffCodedRow.laid w) false (World.doorLaid Tryz.prog 400 os) #[.slice none 0 0,.slice none 0 0] 8 rfl (World.shaped_of_RefB (by kernel_rfl) (by kernel_rfl)) (by kernel_rfl) (by kernel_rfl) (by kernel_rfl) (IK os _)) ?_
  intro W base args ds gs before SK hW _ _ hL _;have iD:∀(j:Nat) t v,Tryz.f3.params[j]? =some t→args[j]? =some v→Value.okWide Tryz.prog W .any base t v:=SK;have hW':=hW;obtain⟨p,q,hA0,hV,rfl,hfz,uQ⟩:=hW;have hA:DataW.TrodAll enc Tryz.prog W 0 (fun _=>true) true Tryz.f3.params.toList args.toList ds p:=hA0;rw[Tryz.params3] at hA iD;obtain⟨v0,v1,d0,d1,p0,p1,rfl,rfl,rfl,h0,h1⟩:=trodAll_two hA;obtain⟨rfl,rfl⟩:=trodVars_none hV;clear hA0 SK;simp only[List.append_nil] at hW' hfz
  obtain⟨⟨qA,nA,cA,xA,sA,jA,rfl,hRA,_,_,_,hIA⟩,hpA⟩:=Bk Tryz.underlying22 Tryz.underlying26 IH (fun z h=>(bounds_u32 h).1) (iD 0 22 _ rfl rfl) h0 fun b off hm=>hfz b off (by simp[hm])
  obtain⟨⟨qB,nB,cB,xB,sB,jB,rfl,hRB,hBB,hPB,hCB,hIB⟩,hpB⟩:=Bk Tryz.underlying23 Tryz.underlying5 acN (fun z h=>(bounds_u8 h).1) (iD 1 23 _ rfl rfl) h1 fun b off hm=>hfz b off (by simp[hm])
  obtain⟨a0,a5,a6,i0,i5,i6,i9,i8⟩:=IJ hL;have vF:=yk sA qA nA cA jA xA hRA sB qB nB cB jB xB hRB hPB hCB (fun x hx=>by have:=bounds_u8 (hBB x hx);omega) a0 128 128 (.pointer (some a5)) (.pointer (some a6));refine(vF.run W ⟨fun s hs=>(by cases hs),fun s hs=>?_,List.Pairwise.nil,fun s hs=>(by cases hs)⟩).mono fun e W' ⟨v,l',he,⟨hv,_⟩,hk,_,_⟩=>?_
  · simp only[List.mem_cons,List.not_mem_nil,or_false] at hs;rcases hs with rfl|rfl|rfl|rfl|rfl|rfl|rfl
    · exact hIA
    · exact hIB
    · exact i9
    · exact i8
    · exact i5
    · exact i6
    · exact i0
  subst he;subst hv;have hold:∀x ∈ p0++p1,W.sameAt W' x∧x.block<W.heap.size:=fun x hx=>by
    have eU:x.block<W.heap.size:=hW'.lt x (by simpa using hx);refine⟨?_,eU⟩;have:∃b o,x=MemPlace.cell b o:=by
      simp only[List.mem_append] at hx;rcases hx with hx|hx
      · exact hpA x hx
      · exact hpB x hx
    obtain⟨xb,xo,rfl⟩:=this;exact hk.II eU
  have stay:∀{v:Value} {d:DataW H} {ps:List MemPlace} (t:TypeId),Tryz.prog.readableRec t=true→t<Tryz.prog.types.size→(∀x ∈ ps,x ∈ p0++p1)→DataW.Trod enc Tryz.prog W 0 (fun _=>true) true t v d ps→DataW.Trod enc Tryz.prog W' 0 (fun x=>decide (x<W.heap.size)) true t v d ps:=fun t hr hs oN h=>
    WideElems.Trod_stays (P:=Tryz.prog) Um hr hs h (fun x hx=>(hold x (oN x hx)).1) (fun x hx=>by simpa using (hold x (oN x hx)).2)
  have aka:Tryz.prog.readableRec 22=true:=by kernel_rfl
  have akb:Tryz.prog.readableRec 23=true:=by kernel_rfl
  have akc:(22:Nat)<Tryz.prog.types.size:=of_decide_eq_true (by kernel_rfl);have akd:(23:Nat)<Tryz.prog.types.size:=of_decide_eq_true (by kernel_rfl);refine⟨_,rfl,[d0,d1],[],p0++p1++[],[],p0++p1,[],by simpa using hW',?_,?_,?_,hk.PC _,fun h=>by cases h⟩
  · exact trodAll_mk1 (shut_bool Tryz.underlying4 true)
  · exact trodAll_mk2 (stay 22 aka akc (fun x hx=>by simp[hx]) h0) (stay 23 akb akd (fun x hx=>by simp[hx]) h1)
  · rfl
theorem row_holds:Rows.FnHuffCodedSaid:=
  OpenClaim.holds_of_wide 3 Tryz.f3 rfl rfl rfl rfl rfl rfl rfl ⟨rfl,rfl,rfl,rfl,rfl⟩ rfl rfl rfl rfl rfl (by kernel_rfl) Tryz.func3 (by kernel_rfl)
    (of_decide_eq_true (by kernel_rfl)) (by unfold Func.isWrapper;first|(rw[if_pos (by decide+kernel)];kernel_rfl)|(rw[if_neg (by decide+kernel)];exact⟨rfl,rfl⟩))
    (fun os started H enc _=>Dn os started H enc)
theorem FnHuffCoded_holds:Rows.FnHuffCodedCardSaid:=
  Claim7.holds_tied_plain_at .later [] [.sentinel,.data,.data,.sentinel,.sentinel,.sentinel,.sentinel,.sentinel,.sentinel] true (true, "9550da41f722ece7e964aca69f7b584b142690f9fbf9d32c848a413556713f3c") true
    row_holds (fun _ h=>by cases h) (by kernel_rfl) (fun _ h=>by cases h) fnHuffCoded_row_tie rfl ⟨rfl,rfl⟩ (by kernel_rfl) rfl
    (fun f fn hf hfn=>by
      obtain rfl:f=3:=Option.some.inj ((show Tryz.prog.funcNamed "pub-pemmican/laws.FnHuffCoded" =some 3 by kernel_rfl).symm.trans hf) |>.symm;obtain rfl:fn=Tryz.f3:=(Option.some.inj (Tryz.func3.symm.trans hfn)).symm;exact⟨by kernel_rfl,fun j t ht=>by
        rw[Tryz.params3] at ht;have h3:t=22∨t=23:=by
          rcases j with _|_|j
          · simp at ht;first|exact .inl ht.symm|exact .inr ht.symm|exact .inl ht|exact .inr ht
          · simp at ht;first|exact .inl ht.symm|exact .inr ht.symm|exact .inl ht|exact .inr ht
          · simp at ht
        rcases h3 with rfl|rfl
        · exact(show Tryz.prog.wantsStandIn 22=false by kernel_rfl)
        · exact(show Tryz.prog.wantsStandIn 23=false by kernel_rfl)⟩)
    (by kernel_rfl)
#print axioms FnHuffCoded_holds
end Go.Proofs.YtaphmhiddngdoaaGreatDoor
