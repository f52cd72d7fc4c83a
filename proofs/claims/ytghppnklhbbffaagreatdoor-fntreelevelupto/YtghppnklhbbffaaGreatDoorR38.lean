/- fnTreeLevelUpto_card proves the card of laws.FnTreeLevel: whatever it is called with, the law returns true and its arguments read as they did.
Conditions: those of the statement Rows.FnTreeLevelUptoCardSaid alone (the arguments are together of bulk at most 1048576; the listed variable reads as the row lays it). -/
import Derived.Test.YtghppnklhbbffaaGreatDoorR05
import Derived.Test.YtghppnklhbbffaaGreatDoorR36
import Derived.Test.YtghppnklhbbffaaGreatDoorR37
set_option linter.all false
set_option maxHeartbeats 4000000
set_option maxRecDepth 100000
namespace Go.Proofs.YtghppnklhbbffaaGreatDoor.fnTreeLevel
open Go.ChangeShapes Go.WideShapes Go.ChangeAt Go.RowKit Go.Proofs.YtghppnklhbbffaaGreatDoor.PFnTreeLevel Go.Proofs.YtghppnklhbbffaaGreatDoorW.PrintWords
theorem own:ownKnob Tryz.prog.godebug=none:=by kernel_rfl
noncomputable def laidWorld (os:Os):World:=
 let N:=(World.settled Tryz.prog os).heap.size
 let w0:=World.holding Tryz.prog os ⟨#[.cells #[.string ⟨#[112,101,98,98,108,101,58,32,76,48,32,115,117,98,108,101,118,101,108,32,103,101,110,101,114,97,116,105,111,110,32,111,112,116,105,109,105,122,97,116,105,111,110,32,99,97,110,110,111,116,32,98,101,32,117,115,101,100]⟩] 508], #[],[]⟩
 { w0 with heap:=w0.heap.modify 3 fun
   | .cells _ t frozen=>.cells #[.iface 438 (.pointer (some ⟨N,0,none⟩))] t frozen
   |o=>o }
abbrev noArgs:Array Value:= #[.slice none 0 0,.agg #[.string ⟨#[]⟩,.bool false,.string ⟨#[]⟩,.bool false],.slice none 0 0]
theorem laid_met (os:Os):laidMet Tryz.prog Rows.fnTreeLevelUptoRow.laid ((laidWorld os).forCall (fun _ _=>0) ⟨#[],noArgs,[]⟩).memory:=
 laidMet_of_run' 8 (by kernel_rfl) (by kernel_rfl)
theorem small0 {H:Type}:Rows.uptoSmall H ([.nil,.agg [.lit (.string []),.lit (.bool false),.lit (.string []),.lit (.bool false)],.nil]++[])=true:=by
 refine decide_eq_true ?_
 simp only [List.append_nil,Rows.uptoBulkAll,Rows.uptoBulk,List.length_nil]
 omega
theorem witness_row (os:Os) {H:Type} (enc:TypeId×Value→H):
  (Rows.OpenSpec.upto Rows.fnTreeLevelSpec).preRow enc Tryz.prog Tryz.f3 Rows.fnTreeLevelUptoRow.domain false Rows.fnTreeLevelUptoRow.laid ((laidWorld os).forCall (fun _ _=>0) ⟨#[],noArgs,[]⟩).memory noArgs:=by
 have hw:(DataW.whole enc Tryz.prog ((laidWorld os).forCall (fun _ _=>0) ⟨#[],noArgs,[]⟩).memory Tryz.f3.params.toList Rows.fnTreeLevelSpec.vars false noArgs.toList 8).map (fun x=>(x.1,x.2.1))=
   some ([.nil,.agg [.lit (.string []),.lit (.bool false),.lit (.string []),.lit (.bool false)],.nil],[]):=by kernel_rfl
 obtain ⟨⟨x1,x2,x3⟩,hx,hx1⟩:=Option.map_eq_some_iff.1 hw
 simp only [Prod.mk.injEq] at hx1
 obtain ⟨rfl,rfl⟩:=hx1
 exact OpenSpec.preRow_of_cond 8 hx (by kernel_rfl) (fun k hk=>by obtain rfl:Rows.uptoSmall=k:=Option.some.inj hk;exact small0) (by kernel_rfl) (laid_met os)
theorem open_bounds {H:Type} {enc:TypeId×Value→H} {W:World} {v:Value} {d:DataW H} {p:List MemPlace} {base:Nat} (hv:Value.okWide Tryz.prog W .any base 24 v) (h:DataW.Trod enc Tryz.prog W 0 (fun _=>true) true 24 v d p):
  ∃ (lo up:ByteArray) (hl hu:Bool),v=.agg #[.string lo,.bool hl,.string up,.bool hu]∧lo.size+up.size≤Rows.uptoBulk d:=by
 obtain ⟨cs,rfl,hcs⟩:=okWide_struct Tryz.underlying24 hv
 obtain ⟨fuel,hf⟩:=h
 obtain ⟨xs,n,_,hx,hl,hn,hfs⟩:=DataW.trod_struct Tryz.underlying24 hf
 match xs,hn,hx with
 |[y0,y1,y2,y3],_,hx=>
  have hlen:cs.toList.length=4:=hl.trans (by kernel_rfl)
  have hlen':(Value.agg cs).cells.toList=cs.toList:=rfl
  rw [hlen'] at hfs
  match h4:cs.toList,hlen with
  |[c0,c1,c2,c3],_=>
   rw [h4] at hfs
   have e9:Tryz.prog.cellsOf 9=1:=by kernel_rfl
   have e4:Tryz.prog.cellsOf 4=1:=by kernel_rfl
   have g0:=hfs 0 _ rfl
   have g1:=hfs 1 _ rfl
   have g2:=hfs 2 _ rfl
   have g3:=hfs 3 _ rfl
   simp only [e9,e4,List.drop_zero,List.drop_succ_cons,List.take_succ_cons,List.take_zero,List.getElem?_cons_zero,List.getElem?_cons_succ] at g0 g1 g2 g3
   obtain ⟨lo,q0,rfl,_⟩:=DataW.trod_string Tryz.underlying9 g0
   obtain ⟨hl',q1,rfl⟩:=DataW.trod_bool Tryz.underlying4 g1
   obtain ⟨up,q2,rfl,_⟩:=DataW.trod_string Tryz.underlying9 g2
   obtain ⟨hu',q3,rfl⟩:=DataW.trod_bool Tryz.underlying4 g3
   obtain rfl:c0=.string lo:=by simpa [e9] using q0
   obtain rfl:c1=.bool hl':=by simpa [e4] using q1
   obtain rfl:c2=.string up:=by simpa [e9] using q2
   obtain rfl:c3=.bool hu':=by simpa [e4] using q3
   refine ⟨lo,up,hl',hu',?_,?_⟩
   ·congr 1
    exact Array.toList_inj.1 h4
   ·simp only [Prod.mk.injEq] at hx
    rw [hx.1]
    simp only [List.map_cons,List.map_nil,Rows.uptoBulk,Rows.uptoBulkAll,Array.length_toList]
    show lo.data.size+up.data.size≤_
    omega
theorem liftedUpto (os:Os) (started:os.Started) (H:Type) (enc:TypeId×Value→H) (F:Stop.Interp):
  ReturnsInHanded {} Tryz.checked os 3 .any ((Rows.OpenSpec.upto Rows.fnTreeLevelSpec).preRow enc Tryz.prog Tryz.f3 Rows.fnTreeLevelUptoRow.domain false Rows.fnTreeLevelUptoRow.laid) (((Rows.OpenSpec.upto Rows.fnTreeLevelSpec).at F).post enc Tryz.prog Tryz.f3 false true false false):=by
 refine returnsInHanded_of_row (C:=Tryz.checked) (s:=Rows.OpenSpec.upto Rows.fnTreeLevelSpec) own started (by kernel_rfl) Tryz.func3
  (witness_row_atRef (enc:=enc) (C:=Tryz.checked) false (laidWorld os) noArgs rfl (by kernel_rfl) (by kernel_rfl) (by kernel_rfl) (witness_row os enc)) ?_
 intro W base args ds gs before hval0 hW _ hcond0 _ _ _ _
 have hcond:Rows.uptoSmall H (ds++gs)=true:=hcond0 _ rfl
 have hval: ∀ (j:Nat) t v,Tryz.f3.params[j]? =some t→args[j]? =some v→Value.okWide Tryz.prog W .any base t v:=hval0
 clear hcond0 hval0
 have hW':=hW
 obtain ⟨p,q,hA0,hV,rfl,hfz,hnd⟩:=hW
 have hA:DataW.TrodAll enc Tryz.prog W 0 (fun _=>true) true Tryz.f3.params.toList args.toList ds p:=hA0
 rw [Tryz.params3] at hA hval
 obtain ⟨v0,vs0,d0,ds0,p0,q0,hargs,rfl,rfl,h0,r0⟩:=trodAll_cons hA
 obtain ⟨v1,vs1,d1,ds1,p1,q1,rfl,rfl,rfl,h1,r1⟩:=trodAll_cons r0
 obtain ⟨v2,vs2,d2,ds2,p2,q2,rfl,rfl,rfl,h2,r2⟩:=trodAll_cons r1
 obtain ⟨rfl,rfl,rfl⟩:=trodAll_nil r2
 obtain rfl:args= #[v0,v1,v2]:=by cases args;simp_all
 obtain ⟨rfl,rfl⟩:=trodVars_none hV
 clear hA0
 simp only [List.append_nil] at hW' hcond
 have hlt: ∀ x∈p0++(p1++p2),x.block < W.heap.size:=fun x hx=>by simpa using hW'.lt x (by simpa using hx)
 obtain ⟨a0,l0,c0,rfl⟩:=okWide_slice Tryz.underlying22 (hval 0 22 v0 rfl rfl)
 obtain ⟨a2,l2,c2,rfl⟩:=okWide_slice Tryz.underlying25 (hval 2 25 v2 rfl rfl)
 obtain ⟨lo,up,hl,hu,rfl,hb1⟩:=open_bounds (hval 1 24 v1 rfl rfl) h1
 have h0k:=h0
 have h1k:=h1
 have h2k:=h2
 obtain ⟨f0,g0⟩:=h0
 obtain ⟨f2,g2⟩:=h2
 obtain ⟨xs,⟨A,c,hA1,hc,hr⟩,hb0,ho0⟩:=X.op_slice (by kernel_rfl) (by kernel_rfl) X.op56 f0 _ _ g0
 obtain ⟨steps,⟨A2,c2',hA2,hc2,hr2⟩,hb2,ho2⟩:=X.op_slice (by kernel_rfl) (by kernel_rfl) X.op66 f2 _ _ g2
 have hA1':Value.slice a0 l0 c0=.slice A xs.length c:=by simpa [Value.cells] using hA1
 have hA2':Value.slice a2 l2 c2=.slice A2 steps.length c2':=by simpa [Value.cells] using hA2
 simp only [Value.slice.injEq] at hA1' hA2'
 obtain ⟨rfl,rfl,rfl⟩:=hA1'
 obtain ⟨rfl,rfl,rfl⟩:=hA2'
 have hS:X.Sml xs steps lo up:=by
  have hk:=of_decide_eq_true hcond
  have hb0':(xs.map X.m56).sum+1≤Rows.uptoBulk d0:=hb0
  have hb2':(steps.map X.m66).sum+1≤Rows.uptoBulk d2:=hb2
  simp only [Rows.uptoBulkAll] at hk
  refine X.Sml.of (by omega) (fun x hx y hy=>((ho0 x hx).2.1 y hy).2.1) (fun s hs=>(ho2 s hs).1.1)
 refine (@X.c3 (TL.Bd.mk W.heap.size) a0 c0 xs lo up hl hu a2 c2 steps W rfl hr hc hr2 hc2 hS).mono fun e W' ⟨he,hE⟩=>?_
 subst he
 have bel:Below W.heap.size W W':=by
  letI:TL.Bd:=⟨W.heap.size⟩
  exact TL.Ext.below hE
 exact ⟨_,rfl,_,_,_,[],_,[],hW',trodAll_mk1 (shut_bool Tryz.underlying4 _),
  trodAll_cons_mk (Below.trod laidOut (by kernel_rfl) (of_decide_eq_true (by kernel_rfl)) h0k bel (fun x hx=>hlt x (by simp [hx])))
   (trodAll_cons_mk (Below.trod laidOut (by kernel_rfl) (of_decide_eq_true (by kernel_rfl)) h1k bel (fun x hx=>hlt x (by simp [hx])))
    (trodAll_cons_mk (Below.trod laidOut (by kernel_rfl) (of_decide_eq_true (by kernel_rfl)) h2k bel (fun x hx=>hlt x (by simp [hx]))) trodAll_mk0)),
  rfl,bel.frame _,fun h=>by cases h⟩
theorem inst:Tryz.f3.isInstance Tryz.prog Rows.fnTreeLevelUptoRow.origin Rows.fnTreeLevelUptoRow.targs:=of_decide_eq_true (by kernel_rfl)
theorem wrap:Tryz.f3.isWrapper Tryz.prog Rows.fnTreeLevelUptoRow.wrapper Rows.fnTreeLevelUptoRow.mainSum:=by unfold Func.isWrapper;first|(rw [if_pos (by decide+kernel)];kernel_rfl)|(rw [if_neg (by decide+kernel)];exact ⟨rfl,rfl⟩)
theorem named : Tryz.prog.funcNamed "pub-strandline/laws.FnTreeLevel" = some 3 := by kernel_rfl
theorem saidUpto:Rows.FnTreeLevelUptoSaid:=
 OpenClaim.holds_of_cond 3 Tryz.f3 rfl rfl rfl rfl rfl rfl rfl ⟨rfl,rfl,rfl,rfl,rfl⟩ rfl rfl rfl rfl rfl named Tryz.func3 facts inst wrap
  (fun os started H enc _ F=>by rw [OpenClaim.pre_eq_preRow];exact liftedUpto os started H enc F)
theorem plain (f : FuncId) (fn : Func) (hf : Tryz.pinned.checked.prog.funcNamed "pub-strandline/laws.FnTreeLevel" = some f) (hfn : Tryz.pinned.checked.prog.funcs[f]? = some fn) :
  true=Tryz.pinned.checked.prog.looks []∧ ∀ (j:Nat) t,fn.params[j]? =some t→Tryz.pinned.checked.prog.wantsStandIn t=false:=by
 obtain rfl : f = 3 := Option.some.inj ((show Tryz.prog.funcNamed "pub-strandline/laws.FnTreeLevel" = some 3 by kernel_rfl).symm.trans hf) |>.symm
 obtain rfl:fn=Tryz.f3:=(Option.some.inj (Tryz.func3.symm.trans hfn)).symm
 refine ⟨by kernel_rfl,fun j t ht=>?_⟩
 rw [Tryz.params3] at ht
 have hm:t=22∨t=24∨t=25:=by simpa using Array.mem_of_getElem? ht
 rcases hm with rfl|rfl|rfl
 ·exact (show Tryz.prog.wantsStandIn 22=false by kernel_rfl)
 ·exact (show Tryz.prog.wantsStandIn 24=false by kernel_rfl)
 ·exact (show Tryz.prog.wantsStandIn 25=false by kernel_rfl)
end Go.Proofs.YtghppnklhbbffaaGreatDoor.fnTreeLevel
namespace Go.Proofs.YtghppnklhbbffaaGreatDoor
theorem fnTreeLevelUpto_card:Rows.FnTreeLevelUptoCardSaid:=
 Claim7.holds_tied_plain_at .later [] _ _ _ _ fnTreeLevel.saidUpto (fun _ h=>by cases h) (by kernel_rfl) (fun _ h=>by cases h) fnTreeLevelUpto_row_tie rfl ⟨rfl,rfl⟩ (by kernel_rfl) rfl fnTreeLevel.plain (by kernel_rfl)
#print axioms fnTreeLevelUpto_card
end Go.Proofs.YtghppnklhbbffaaGreatDoor
