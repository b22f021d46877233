/- For every input that the law's guards let in, the decompressed text is the one that was written: the row and its tied card. No condition is added: the card ties the three listed variables. -/
import Derived.Test.YtplgbfkpeampgaaGreatDoorQA
import Derived.Test.YtplgbfkpeampgaaGreatDoorTie
import Derived.Test.YtplgbfkpeampgaaGreatDoorCards
import Derived.ProofKit
import Derived.Carry
import Derived.WideKeyPair
import Derived.WideKeyArgs
import Derived.LaidMore
import Derived.OpenShut
import Derived.Stop.Joined
import Derived.SevenTiedAt
set_option linter.unusedVariables false
set_option linter.unusedSimpArgs false
set_option maxRecDepth 100000
namespace Go.Proofs.YtplgbfkpeampgaaGreatDoor
open Go Go.Proofs.YtplgbfkpeampgaaGreatDoor
open Go.ChangeShapes Go.WideShapes Go.ChangeAt Go.RowKit Go.WideElems Go.WideMaps
theorem cd_own:ownKnob Tryz.prog.godebug=none:=by kernel_rfl
theorem cd_out:laidOutB Tryz.prog=true:=by kernel_rfl
theorem cd_c5:Tryz.prog.cellsOf 5=1:=by kernel_rfl
theorem cd_arr:ArrKey Tryz.prog 23 4 2:=⟨by kernel_rfl,by kernel_rfl,by kernel_rfl,by kernel_rfl⟩
section
variable {H:Type} {enc:TypeId × Value→H}
theorem inW_empty (W:World):(⟨0,0,[],none⟩:Seg).inW W:=⟨fun j v h=>by simp at h,fun j h=>by simp at h,fun x h=>by cases h⟩
/-- a slice of bytes that came in -/
theorem open_seg {W:World} {base:Nat} {v:Value} {d:DataW H} {p:List MemPlace} (hval:Value.okWide Tryz.prog W .any base 22 v) (h:DataW.Trod enc Tryz.prog W 0 (fun _=>true) true 22 v d p) (hfz:∀b off,MemPlace.cell b off ∈ p→W.frozen? ⟨b,off,none⟩=false):
    (∃q n cap xs s j,v=.slice q n cap∧Rd q n 1 (nats .u8 xs) s j∧Bytes xs∧s.inW W)∧∀x ∈ p,∃b o,x=MemPlace.cell b o:=by
  obtain⟨a1,len,cap,rfl⟩:=okWide_slice Tryz.underlying22 hval
  obtain⟨fuel,hf⟩:=h
  rcases open_ints Tryz.underlying22 Tryz.underlying5 cd_c5 hf with ⟨hcs,hx⟩|⟨a,len',cap',zs,hcs,_,hl,hm,hz,hx,hcell,hwz⟩
  · simp[Value.cells] at hcs
    obtain⟨rfl,rfl,rfl⟩:=hcs
    simp only[Prod.mk.injEq] at hx
    obtain⟨rfl,rfl⟩:=hx
    exact⟨⟨none,0,0,[],⟨0,0,[],none⟩,0,rfl,Rd.nil rfl,fun x hx=>by(simp at hx),inW_empty W⟩,fun x hx=>by simp at hx⟩
  · simp[Value.cells] at hcs
    obtain⟨rfl,rfl,rfl⟩:=hcs
    simp only[Prod.mk.injEq] at hx
    obtain⟨rfl,rfl⟩:=hx
    simp only[if_true] at hz
    refine⟨?_,fun x hx=>by
      simp only[MemPlace.row,List.mem_map] at hx
      obtain⟨i,_,rfl⟩:=hx
      exact⟨_,_,rfl⟩⟩
    by_cases hc:cap=0
    · have hl0:len=0:=Om
      subst hl0
      exact⟨some a,0,cap,[],⟨0,0,[],none⟩,0,rfl,⟨rfl,fun h=>Om,rfl⟩,fun x hx=>by(simp at hx),inW_empty W⟩
    · obtain⟨ab,ao,spot⟩:=a
      have hspot:spot=none:=by simpa [Addr.add] using World.cell?_spot (hcell 0 Om)
      subst hspot
      refine⟨some ⟨ab,ao,none⟩,len,cap,(zs.map Int.toNat).take len,⟨ab,ao,nats .u8 (zs.map Int.toNat),none⟩,0,rfl,Rd.ofNats rfl (by rw[List.drop_zero]) Oz,fun x hx=>?_,fun j v hj=>?_,fun j hj=>?_,fun x hx=>by cases hx⟩
      · obtain⟨z,hz1,rfl⟩:=List.mem_map.1 (List.mem_of_mem_take hx)
        have:=bounds_u8 (hwz z hz1)
        omega
      · have hlt:j<zs.length:=by
          have h1:j<(nats .u8 (zs.map Int.toNat)).length:=(List.getElem?_eq_some_iff.1 hj).1
          simpa using h1
        have hg:(nats .u8 (zs.map Int.toNat))[j]? =some (.int .u8 (((zs.map Int.toNat).getD j 0:Nat):Int)):=nats_get (by simpa using hlt)
        have h2:=hcell j hlt
        rw[Addr.add_lit] at h2
        have hr:=range_u8 hwz j
        have e:(((zs.map Int.toNat).getD j 0:Nat):Int)=zs.getD j 0:=by
          rw[getD_map_toNat,List.getD_eq_getElem?_getD]
          omega
        rw[e] at hg
        have h3:v=.int .u8 (zs.getD j 0):=Option.some.inj (hj.symm.trans hg)
        show W.cell? ⟨ab,ao+j,none⟩=some v
        rw[h3];exact h2
      · have hlt:j<zs.length:=by simpa using hj
        exact hfz ab (ao+j) (by simp only[MemPlace.row,List.mem_map,List.mem_range];exact⟨j,hlt,rfl⟩)
/-- two truth values that came in -/
theorem open_two {W:World} {base:Nat} {v:Value} {d:DataW H} {p:List MemPlace} (hval:Value.okWide Tryz.prog W .any base 23 v) (h:DataW.Trod enc Tryz.prog W 0 (fun _=>true) true 23 v d p):∃a b,v=.agg #[.bool a,.bool b]∧p=[]:=by
  obtain⟨c0,c1,rfl⟩:=okWide_pair cd_arr hval
  obtain⟨fuel,hf⟩:=h
  obtain⟨xs,m,rfl,hx,hl,hn,hel⟩:=DataW.trod_array cd_arr.hu hf
  have c4:=cd_arr.one
  have h0:=hel 0 Od
  have h1:=hel 1 Od
  rw[c4] at h0 h1
  match xs,hn,hx,h0,h1 with
  |[y0,y1],_,hx,h0,h1=>
    have e0:DataW.trod enc Tryz.prog W 0 (fun _=>true) true m 4 [c0]=some y0:=h0
    have e1:DataW.trod enc Tryz.prog W 0 (fun _=>true) true m 4 [c1]=some y1:=h1
    obtain⟨a,ha,rfl⟩:=DataW.trod_bool Tryz.underlying4 e0
    obtain⟨b,hb,rfl⟩:=DataW.trod_bool Tryz.underlying4 e1
    simp only[List.cons.injEq,and_true] at ha hb
    subst ha;subst hb
    simp only[Prod.mk.injEq] at hx
    exact⟨a,b,rfl,by rw[hx.2];rfl⟩
end
theorem Keeps.butNone {W W':World} (h:Keeps [] W W') (may:MemPlace→Prop):W.keptBut W' may:=by
  refine⟨h.os,h.output,fun i hi=>?_⟩
  have hb:W.heap[i]? =some W.heap[i]:=Array.getElem?_eq_getElem hi
  rw[hb]
  cases ho:W.heap[i] with
  |cells c t fr=>
    rw[ho] at hb
    obtain⟨c',h1,h2,h3⟩:=h.cells i c t fr hb
    rw[h1]
    exact⟨rfl,rfl,h2,fun j _=>h3 j fun s hs=>by cases hs⟩
  |map es clock=>
    rw[ho] at hb
    rw[h.other i _ hb Oi]
    exact .inr ⟨rfl,rfl⟩
  |_=>
    rw[ho] at hb
    rw[h.other i _ hb Oi]
theorem Keeps.cellSame {W W':World} (h:Keeps [] W W') {b o:Nat} (hb:b<W.heap.size):W'.cell? ⟨b,o,none⟩=W.cell? ⟨b,o,none⟩:=by
  have hb':W.heap[b]? =some W.heap[b]:=Array.getElem?_eq_getElem hb
  unfold World.cell?
  cases ho:W.heap[b] with
  |cells c t fr=>
    rw[ho] at hb'
    obtain⟨c',h1,h2,h3⟩:=h.cells b c t fr hb'
    simp only[hb',h1]
    rw[h3 o fun s hs=>by cases hs]
  |_=>
    rw[ho] at hb'
    rw[h.other b _ hb' Oi,hb']
/-- The door's own heap meets the condition. -/
theorem door_met (os:Os) (args:Array Value):laidMetH Tryz.prog Rows.fnHuffAnyRow.laid ((World.doorLaid Tryz.prog 400 os).forCall (fun _ _=>0) ⟨#[],args,[]⟩).memory:=
  laidMetH_of_parts3 (fuel:=8) (laidMet_of_run' 8 (by kernel_rfl) (by kernel_rfl)) (by kernel_rfl) (by kernel_rfl)
theorem law_lifted (os:Os) (started:os.Started) (H:Type) (enc:TypeId × Value→H):
    ReturnsInHanded {} Tryz.checked os 3 .any (fun w args=>(Rows.fnHuffAnySpec.pre enc Tryz.prog Tryz.f3 [] false w args∧laidMetH Tryz.prog Rows.fnHuffAnyRow.laid w)∧sizedMet enc Tryz.prog Tryz.f3 (OpenSpec.ofChange Rows.fnHuffAnySpec) false w args)
      (Rows.fnHuffAnySpec.post enc Tryz.prog Tryz.f3 false true false false):=by
  refine returnsInHanded_of_change_and (C:=Tryz.checked) (X:=fun w _=>laidMetH Tryz.prog Rows.fnHuffAnyRow.laid w) (fun _ _ _ hh h=>h.of_heap hh) cd_own started (by kernel_rfl) Tryz.func3
    (ChangeSpec.witness_shaped (enc:=enc) (C:=Tryz.checked) (os:=os) (X:=fun w _=>laidMetH Tryz.prog Rows.fnHuffAnyRow.laid w) false (World.doorLaid Tryz.prog 400 os) #[.slice none 0 0,.slice none 0 0,.slice none 0 0,.agg #[.bool false,.bool false]] 8 rfl (World.shaped_of_RefB (by kernel_rfl) (by kernel_rfl)) (by kernel_rfl) (by kernel_rfl) (by kernel_rfl) (door_met os _)) ?_
  intro W base args ds gs before hval0 hW _ _ hL _
  have hval:∀(j:Nat) t v,Tryz.f3.params[j]? =some t→args[j]? =some v→Value.okWide Tryz.prog W .any base t v:=hval0
  have hW':=hW
  obtain⟨p,q,hA0,hV,rfl,hfz,hnd⟩:=hW
  have hA:DataW.TrodAll enc Tryz.prog W 0 (fun _=>true) true Tryz.f3.params.toList args.toList ds p:=hA0
  rw[Tryz.params3] at hA hval
  obtain⟨v0,v1,v2,v3,d0,d1,d2,d3,p0,p1,p2,p3,rfl,rfl,rfl,h0,h1,h2,h3⟩:=trodAll_four hA
  obtain⟨rfl,rfl⟩:=trodVars_none hV
  clear hA0 hval0
  simp only[List.append_nil] at hW' hfz
  obtain⟨⟨qA,nA,cA,xA,sA,jA,rfl,hRA,hBA,hIA⟩,hpA⟩:=open_seg (hval 0 22 _ rfl rfl) h0 fun b off hm=>hfz b off (by simp[hm])
  obtain⟨⟨qB,nB,cB,xB,sB,jB,rfl,hRB,hBB,hIB⟩,hpB⟩:=open_seg (hval 1 22 _ rfl rfl) h1 fun b off hm=>hfz b off (by simp[hm])
  obtain⟨⟨qC,nC,cC,xC,sC,jC,rfl,hRC,hBC,hIC⟩,hpC⟩:=open_seg (hval 2 22 _ rfl rfl) h2 fun b off hm=>hfz b off (by simp[hm])
  obtain⟨a,b,rfl,rfl⟩:=open_two (hval 3 23 _ rfl rfl) h3
  have con:=c_FnHuffAny sA qA nA cA jA xA hRA sB qB nB cB jB xB hRB sC qC nC cC jC xC hRC a b hBA hBB hBC
  refine(con.run W ⟨fun s hs=>(by cases hs),fun s hs=>?_,List.Pairwise.nil,fun s hs=>(by cases hs)⟩).mono fun e W' ⟨v,l',he,⟨hv,_⟩,hk,_,_⟩=>?_
  · simp only[List.mem_cons,List.not_mem_nil,or_false] at hs
    rcases hs with rfl|rfl|rfl
    · exact hIA
    · exact hIB
    · exact hIC
  subst he;subst hv
  have hold:∀x ∈ p0++p1++p2,W.sameAt W' x∧x.block<W.heap.size:=fun x hx=>by
    have hlt:x.block<W.heap.size:=hW'.lt x (by simpa using hx)
    refine⟨?_,hlt⟩
    have:∃b o,x=MemPlace.cell b o:=by
      simp only[List.mem_append] at hx
      rcases hx with (hx|hx)|hx
      · exact hpA x hx
      · exact hpB x hx
      · exact hpC x hx
    obtain⟨xb,xo,rfl⟩:=this
    exact hk.cellSame hlt
  have stay:∀{v:Value} {d:DataW H} {ps:List MemPlace} (t:TypeId),Tryz.prog.readableRec t=true→t<Tryz.prog.types.size→(∀x ∈ ps,x ∈ p0++p1++p2)→DataW.Trod enc Tryz.prog W 0 (fun _=>true) true t v d ps→DataW.Trod enc Tryz.prog W' 0 (fun x=>decide (x<W.heap.size)) true t v d ps:=fun t hr hs hsub h=>
    WideElems.Trod_stays (P:=Tryz.prog) cd_out hr hs h (fun x hx=>(hold x (hsub x hx)).1) (fun x hx=>by simpa using (hold x (hsub x hx)).2)
  have hr22:Tryz.prog.readableRec 22=true:=by kernel_rfl
  have hr23:Tryz.prog.readableRec 23=true:=by kernel_rfl
  have hs22:(22:Nat)<Tryz.prog.types.size:=of_decide_eq_true (by kernel_rfl)
  have hs23:(23:Nat)<Tryz.prog.types.size:=of_decide_eq_true (by kernel_rfl)
  refine⟨_,rfl,[d0,d1,d2,d3],[],p0++p1++p2++[],[],p0++(p1++(p2++[])),[],by simpa using hW',?_,?_,?_,hk.butNone _,fun h=>by cases h⟩
  · exact trodAll_mk1 (shut_bool Tryz.underlying4 true)
  · exact trodAll_mk4 (stay 22 hr22 hs22 (fun x hx=>by simp[hx]) h0) (stay 22 hr22 hs22 (fun x hx=>by simp[hx]) h1) (stay 22 hr22 hs22 (fun x hx=>by simp[hx]) h2) (stay 23 hr23 hs23 (fun x hx=>by cases hx) h3)
  · rfl
theorem row_holds:Rows.FnHuffAnySaid:=
  OpenClaim.holds_of_wide 3 Tryz.f3 rfl rfl rfl rfl rfl rfl rfl ⟨rfl,rfl,rfl,rfl,rfl⟩ rfl rfl rfl rfl rfl (by kernel_rfl) Tryz.func3 (by kernel_rfl)
    (of_decide_eq_true (by kernel_rfl)) (by unfold Func.isWrapper;first|(rw[if_pos (by decide+kernel)];kernel_rfl)|(rw[if_neg (by decide+kernel)];exact⟨rfl,rfl⟩))
    (fun os started H enc _=>law_lifted os started H enc)
theorem FnHuffAny_holds:Rows.FnHuffAnyCardSaid:=
  Claim7.holds_tied_plain_at .later [] [.sentinel,.sentinel,.sentinel] true (true, "21f944562e1f17660d39354aa7720f77a0c99e3b25f356552e65c529d0979945") true
    row_holds (fun _ h=>by cases h) (by kernel_rfl) (fun _ h=>by cases h) fnHuffAny_row_tie rfl ⟨rfl,rfl⟩ (by kernel_rfl) rfl
    (fun f fn hf hfn=>by
      obtain rfl:f=3:=Option.some.inj ((show Tryz.prog.funcNamed "pub-pemmican/laws.FnHuffAny" =some 3 by kernel_rfl).symm.trans hf) |>.symm
      obtain rfl:fn=Tryz.f3:=(Option.some.inj (Tryz.func3.symm.trans hfn)).symm
      exact⟨by kernel_rfl,fun j t ht=>by
        rw[Tryz.params3] at ht
        have h3:t=22∨t=23:=by
          rcases j with _|_|_|_|j
          · simp at ht;first|exact .inl ht.symm|exact .inr ht.symm|exact .inl ht|exact .inr ht
          · simp at ht;first|exact .inl ht.symm|exact .inr ht.symm|exact .inl ht|exact .inr ht
          · simp at ht;first|exact .inl ht.symm|exact .inr ht.symm|exact .inl ht|exact .inr ht
          · simp at ht;first|exact .inl ht.symm|exact .inr ht.symm|exact .inl ht|exact .inr ht
          · simp at ht
        rcases h3 with rfl|rfl
        · exact(show Tryz.prog.wantsStandIn 22=false by kernel_rfl)
        · exact(show Tryz.prog.wantsStandIn 23=false by kernel_rfl)⟩)
    (by kernel_rfl)
#print axioms FnHuffAny_holds
end Go.Proofs.YtplgbfkpeampgaaGreatDoor
