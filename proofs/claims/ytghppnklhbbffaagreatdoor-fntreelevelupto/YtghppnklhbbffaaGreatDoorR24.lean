/- Part 24 of the proof that laws.FnTreeLevel answers true, for arguments of small bulk. -/
import Derived.Test.YtghppnklhbbffaaGreatDoorR05
import Derived.Test.YtghppnklhbbffaaGreatDoorR23
import Derived.Laws.MakeOwn
set_option linter.all false
set_option maxHeartbeats 4000000
set_option maxRecDepth 100000
namespace Go.Proofs.YtghppnklhbbffaaGreatDoor.X
open Go Go.RowKit Go.Proofs.YtghppnklhbbffaaGreatDoor.TL Go.Proofs.YtghppnklhbbffaaGreatDoor.PFnTreeLevel
theorem ext_grown [Bd] {w w':World} (hg:w.grownBy w' none):Ext w w':=
 ⟨hg.os,hg.tape,hg.output,hg.size,fun k hs=>hg.block k hs.lt (by simp),fun k c t f hc=>⟨c,(hg.block k (Array.getElem?_eq_some_iff.1 hc).1 (by simp)).trans hc⟩⟩
theorem go_make0 [Bd] {P:Program} {Q:Exit→Act→World→Prop} {bs:List Nat} {w:World} {s:ST} (t e:TypeId) (x1 x2:Operand) (z:Value) (H:List SB) (h:curOp s=some (.makeSlice t x1 x2)) (h1:(evS s.T x1).den bs=.int .i64 0) (h2:(evS s.T x2).den bs=.int .i64 0) (ht:P.underlying t=some (.slice e)) (hz:(P.info? e).map (·.zero)=some (some z)) (hs:Wk bs s w) (hH:s.H=H)
  (hk: ∀ b w',Ext w w'→Wk bs (afterC s (.sl ⟨b,0,none⟩ 0 0) H) w'→kx P Q (afterC s (.sl ⟨b,0,none⟩ 0 0) H).K .normal (actS bs (afterC s (.sl ⟨b,0,none⟩ 0 0) H).T) w'):kx P Q s.K .normal (actS bs s.T) w:=by
 cases hi:P.info? e with
 |none=>rw [hi] at hz;cases hz
 |some i=>
  rw [hi] at hz
  simp only [Option.map_some,Option.some.injEq] at hz
  obtain ⟨w1,hr,_,hg⟩:=run_makeSlice_owned (P:=P) w 0 t e i z i.size ht hi hz rfl .i64 .i64 0 (by omega) (by omega) (by simp [maxLen]) (Nat.zero_le _)
  refine go_op (.makeSlice t x1 x2) h hs w1 (.sl ⟨w.heap.size,0,none⟩ 0 0) [] H (.value (.slice (some ⟨w.heap.size,0,none⟩) 0 0)) (fun o ho=>?_) (.inl (by simp only [SV.den])) (by rw [List.append_nil];exact (hs.satE H hH).grown hg (by simp)) (fun hW=>?_)
  ·have e1:(actS bs s.T).eval x1=.int .i64 0:=by rw [ev_den,h1]
   have e2:(actS bs s.T).eval x2=.int .i64 ((0:Nat):Int):=by rw [ev_den,h2];rfl
   simp only [execOp,ho,e1,e2,Sem.run_bind,hr,Result.andThen,Sem.run_pure]
  ·rw [List.append_nil] at hW ⊢
   exact hk _ w1 (ext_grown hg) hW
def H122 (f:Nat→Value) (cv cmp fmt:V1) (ks:SV):List SB:=[⟨286,VS f cv⟩,⟨352,SubS cmp fmt (.p 0 3) ks⟩]
theorem c122 [Bd] (f:Nat→Value) (cv cmp fmt:V1) (vb:Nat) (w:World) (hs:Sat [vb] [⟨286,VS f cv⟩] w):
  Calls Tryz.prog 122 #[.pointer (some ⟨vb,3,none⟩),cmp.1,fmt.1,.int .i64 0] w fun e w'=> ∃ sb,e=.returned (.tuple #[.pointer (some ⟨sb,0,none⟩),.nilIface])∧(∃ cs,w'.heap[sb]? =some (.cells cs 352 (0,0))∧cs[0]? =some (.slice none 0 0))∧Ext w w':=by
 refine gs (bs:=[vb]) [.p 0 3,o1 cmp,o1 fmt,.it .i64 0] _ Tryz.func122 hs (fun hW=>?_)
 refine go_runF 200 ⟨[352,4000000],1,[],[],1⟩ (by kernel_rfl) hW (Fr.refl [352,134,4000000] w [vb]) rfl [] (by kernel_rfl) trivial ?_
 intro nw w1 hK1 hF1 hW1
 obtain ⟨sb,rfl⟩:=nw1 (hW1.num 2 (by kernel_rfl)) rfl
 have hs1:=hW1.sq (H122 f cv cmp fmt .ns)
 have hv: ∀ {w'},Sat [vb,sb] (H122 f cv cmp fmt .ns) w'→Sat [vb] [⟨286,VS f cv⟩] w':=fun h=>h.sub [0] (by decide) (by simp) rfl ⟨h.memC 0 rfl (by kernel_rfl),trivial⟩
 refine gc 153 [.p 0 3] hW1 ?_
 refine (c153 f cv vb w1 (hv hs1)).mono ?_
 rintro e w2 ⟨rfl,hE2⟩
 refine ⟨.it .i64 0,[],_,rfl,hs1.kq hE2,fun hW2=>?_⟩
 refine gf0 (bs:=[vb,sb]) 200 ⟨[352,4000000],2,[],[],1⟩ hW2 (hF1.callF (nw:=[]) hE2 (Far.of_ext hE2 [])) fun w3 hK3 hF3 hW3=>?_
 refine go_make0 385 389 (.const (.int .i64 0)) (.tmp 36) ((Tryz.prog.info? 389).bind (·.zero) |>.get (by kernel_rfl)) (H122 f cv cmp fmt .ns) (by kernel_rfl) (by kernel_rfl) (by kernel_rfl) (by kernel_rfl) (by kernel_rfl) hW3 (by kernel_rfl) (fun kb w4 hE4 hW4=>?_)
 refine gf0 (bs:=[vb,sb]) 200 ⟨[352,4000000],2,[],[],1⟩ hW4 (hF3.callF (nw:=[]) hE4 (Far.of_ext hE4 [])) fun w5 hK5 hF5 hW5=>?_
 have hs5:=hW5.sq (H122 f cv cmp fmt .ns)
 refine gc 154 [.p 0 3] hW5 ?_
 refine (c154 f cv vb w5 (hv hs5)).mono ?_
 rintro e w6 ⟨rfl,hE6⟩
 refine ⟨.agg (it0S cv),[],_,rfl,hs5.kq hE6,fun hW6=>?_⟩
 refine go_runF (bs:=[vb,sb]) 200 ⟨[352,4000000],2,[],[],1⟩ (by kernel_rfl) hW6 (hF5.callF (nw:=[]) hE6 (Far.of_ext hE6 [])) rfl [] (by kernel_rfl) trivial ?_
 intro nw w7 hK7 hF7 hW7
 obtain ⟨ib,rfl⟩:=nw1 (hW7.num 3 (by kernel_rfl)) rfl
 have hs7:=hW7.sq (H122 f cv cmp fmt .ns++[⟨134,it0S cv⟩])
 refine gc 106 [.p 2 0] hW7 ?_
 refine (c106n cv ib w7 (hs7.sub [2] (by decide) (by simp) rfl ⟨hs7.memC 2 rfl (by kernel_rfl),trivial⟩)).mono ?_
 rintro e w8 ⟨rfl,hE8⟩
 refine ⟨.np,[],_,rfl,hs7.kq hE8,fun hW8=>?_⟩
 refine gf0 (bs:=[vb,sb,ib]) 200 ⟨[352,4000000],3,[],[],1⟩ hW8 (hF7.callF (nw:=[]) hE8 (Far.of_ext hE8 [])) fun w9 hK9 hF9 hW9=>?_
 have hs9:=hW9.sq (H122 f cv cmp fmt .ns++[⟨134,it0S cv⟩])
 refine gc 156 [.sl ⟨kb,0,none⟩ 0 0,o1 cmp] hW9 ?_
 refine (c156 ⟨kb,0,none⟩ 0 cmp w9).mono ?_
 rintro e w10 ⟨rfl,hE10⟩
 refine ⟨.ns,[],_,rfl,hs9.kq hE10,fun hW10=>?_⟩
 refine gf0 (bs:=[vb,sb,ib]) 200 ⟨[352,4000000],3,[],[],1⟩ hW10 (hF9.callF (nw:=[]) hE10 (Far.of_ext hE10 [])) fun w11 hK11 hF11 hW11=>?_
 refine go_make0 350 392 (.tmp 83) (.tmp 83) ((Tryz.prog.info? 392).bind (·.zero) |>.get (by kernel_rfl)) (H122 f cv cmp fmt .ns++[⟨134,it0S cv⟩]) (by kernel_rfl) (by kernel_rfl) (by kernel_rfl) (by kernel_rfl) (by kernel_rfl) hW11 (by kernel_rfl) (fun kb2 w12 hE12 hW12=>?_)
 refine gf0 (bs:=[vb,sb,ib]) 200 ⟨[352,4000000],3,[],[],1⟩ hW12 (hF11.callF (nw:=[]) hE12 (Far.of_ext hE12 [])) fun w13 hK13 hF13 hW13=>?_
 have hs13:=hW13.sq (H122 f cv cmp fmt (.sl ⟨kb2,0,none⟩ 0 0)++[⟨134,it0S cv⟩])
 refine gc 106 [.p 2 0] hW13 ?_
 refine (c106n cv ib w13 (hs13.sub [2] (by decide) (by simp) rfl ⟨hs13.memC 2 rfl (by kernel_rfl),trivial⟩)).mono ?_
 rintro e w14 ⟨rfl,hE14⟩
 refine ⟨.np,[],_,rfl,hs13.kq hE14,fun hW14=>?_⟩
 refine gf0 (bs:=[vb,sb,ib]) 200 ⟨[352,4000000],3,[],[],1⟩ hW14 (hF13.callF (nw:=[]) hE14 (Far.of_ext hE14 [])) fun w15 hK15 hF15 hW15=>?_
 have hs15:=hW15.sq (H122 f cv cmp fmt (.sl ⟨kb2,0,none⟩ 0 0)++[⟨134,it0S cv⟩])
 refine gc 158 [.p 1 0,.it .i64 0] hW15 ?_
 refine (c158 cmp fmt ⟨.pointer (some ⟨vb,3,none⟩),rfl⟩ ⟨kb2,0,none⟩ 0 sb w15 (hs15.sub [1] (by decide) (by simp) rfl ⟨hs15.memC 1 rfl (by kernel_rfl),trivial⟩)).mono ?_
 rintro e w16 ⟨rfl,hE16⟩
 refine ⟨.tup [],[],_,rfl,hs15.kq hE16,fun hW16=>?_⟩
 refine gf0 (bs:=[vb,sb,ib]) 200 ⟨[352,4000000],3,[],[],1⟩ hW16 (hF15.callF (nw:=[]) hE16 (Far.of_ext hE16 [])) fun w17 hK17 hF17 hW17=>?_
 have hs17:=hW17.sq (H122 f cv cmp fmt (.sl ⟨kb2,0,none⟩ 0 0)++[⟨134,it0S cv⟩])
 obtain ⟨hk,hf⟩:=hF17.kf hs [352,134] (by kernel_rfl)
 have hE:Ext w w17:=(Kept.refl [] w).fin' hk hf (by
  intro x hx
  simp only [List.mem_singleton] at hx
  subst hx
  exact .inr ⟨_,_,_,hs.mem 0 _ rfl,by simp⟩)
 exact gt (.tup [.p 1 0,.ni]) hW17.sat ⟨sb,rfl,⟨_,hs17.mem 1 _ rfl,rfl⟩,hE⟩
theorem c93 [Bd] (f:Nat→Value) (cv cmp fmt:V1) (vb:Nat) (w:World) (hs:Sat [vb] [⟨286,VS f cv⟩] w):
  Calls Tryz.prog 93 #[.pointer (some ⟨vb,0,none⟩),cmp.1,fmt.1,.int .i64 0] w fun e w'=>e=.returned .nilIface∧Kept [286] w w'∧Far [vb] w w'∧ ∃ f',Sat [vb] [⟨286,VS f' cv⟩] w':=by
 refine gs (bs:=[vb]) [.p 0 0,o1 cmp,o1 fmt,.it .i64 0] _ Tryz.func93 hs (fun hW=>?_)
 refine gf0 200 ⟨[286,4000000],1,[],[],1⟩ hW (Fr.refl [286,4000000] w [vb]) fun w1 hK1 hF1 hW1=>?_
 have hs1:=hW1.sq [⟨286,VS f cv⟩]
 refine gc 122 [.p 0 3,o1 cmp,o1 fmt,.it .i64 0] hW1 ?_
 refine (c122 f cv cmp fmt vb w1 hs1).mono ?_
 rintro e w2 ⟨sb,rfl,⟨cs,hc2,hc0⟩,hE2⟩
 have hs2:=hs1.kq hE2
 refine ⟨.tup [.ptr ⟨sb,0,none⟩,.ni],[],_,rfl,hs2,fun hW2=>?_⟩
 refine gf0 (bs:=[vb]) 200 ⟨[286,4000000],1,[],[],1⟩ hW2 (hF1.callF (nw:=[]) hE2 (Far.of_ext hE2 [])) fun w3 hK3 hF3 hW3=>?_
 refine go_load 278 (.tmp 39) ⟨sb,0,none⟩ .ns _ (by kernel_rfl) (by kernel_rfl) (by kernel_rfl) hW3 rfl (cell_of_heap ((hK3.block sb (solid_of hc2 (by simp))).trans hc2) hc0) (fun hW4=>?_)
 refine gf0 (bs:=[vb]) 200 ⟨[286,4000000],1,[],[],1⟩ hW4 hF3 fun w5 hK5 hF5 hW5=>?_
 obtain ⟨hk,hf⟩:=hF5.kf hs [286] (by kernel_rfl)
 exact gt .ni hW5.sat ⟨rfl,hk,hf,fun i=>match i with|1=>.pointer (some ⟨sb,0,none⟩)|2=>.slice none 0 0|i=>f i,hW5.sq _⟩
theorem c44 [Bd] (cb tb ob:Nat) (mg vp:V1) (w:World) (hB0:autoParam (Bd.B≤w.heap.size) sz0._auto_1):Calls Tryz.prog 44 #[.pointer (some ⟨cb,0,none⟩),mg.1,vp.1,.func (.func 47) #[] #[.pointer (some ⟨tb,0,none⟩),.pointer (some ⟨ob,0,none⟩)]] w fun e w'=> ∃ sb xb,e=.returned (.pointer (some ⟨sb,0,none⟩))∧w.heap.size≤sb∧w.heap.size≤xb∧w'.heap[sb]? =some (.cells (SV.denL [] (zzS cb mg nilV vp xb)).toArray 243 (0,0))∧w'.heap[xb]? =some (.cells #[.func (.func 47) #[] #[.pointer (some ⟨tb,0,none⟩),.pointer (some ⟨ob,0,none⟩)]] 191 (0,0))∧Ext w w':=by
 refine gs (bs:=[]) [.ptr ⟨cb,0,none⟩,o1 mg,o1 vp,.fn 47 [.ptr ⟨tb,0,none⟩,.ptr ⟨ob,0,none⟩]] [] Tryz.func44 (sat0 w) (fun hW=>?_)
 refine gr2 200 ⟨[],0,[],[],0⟩ hW fun xb sb w1 hfr hE1 hW1=>?_
 have hs1:=hW1.sq [⟨191,[.fn 47 [.ptr ⟨tb,0,none⟩,.ptr ⟨ob,0,none⟩]]⟩,⟨243,[.ptr ⟨cb,0,none⟩,o1 mg,.ns,o1 vp,.fn 89 [.p 0 0]]⟩]
 exact gt (.p 1 0) hW1.sat ⟨sb,xb,rfl,hfr sb (by simp),hfr xb (by simp),hs1.memC 1 rfl (by kernel_rfl),hs1.mem 0 _ rfl,hE1⟩
end Go.Proofs.YtghppnklhbbffaaGreatDoor.X
namespace Go.Proofs.YtghppnklhbbffaaGreatDoor.X
open Go Go.RowKit Go.MapKept Go.Proofs.YtghppnklhbbffaaGreatDoor.TL Go.Proofs.YtghppnklhbbffaaGreatDoor.PFnTreeLevel
def IsF (w:World) (f:Nat):Prop:= ∃ c,w.heap[f]? =some (.cells c 188 (0,0))
theorem IsF.kept [Bd] {ts:List TypeId} {w w':World} {f:Nat} (h:IsF w f) (hk:Kept ts w w'):IsF w' f:=by
 obtain ⟨c,hc⟩:=h
 obtain ⟨c',h'⟩:=hk.ty f c 188 (0,0) hc
 exact ⟨c',h'⟩
abbrev fV (f:Nat):Value:=.pointer (some ⟨f,0,none⟩)
theorem run_eqF [Bd] {w:World} {f g:Nat} (hf:IsF w f) (hg:IsF w g):(Op.equal 79 (fV f) (fV g)).run Tryz.prog w=.ok (f==g) w:=by
 obtain ⟨c,hc⟩:=hf
 obtain ⟨c',hc'⟩:=hg
 by_cases e:f=g
 ·subst e
  have hB:Blks 1 [f] w:=by
   refine ⟨fun i hi=>?_,fun i j hi hj _=>by omega⟩
   obtain rfl:i=0:=by omega
   exact ⟨c,188,hc⟩
  have h:=eqS_run (P:=Tryz.prog) hB (t:=79) (c:=false) (x:=.p 0 0) (y:=.p 0 0) (r:=true) (by kernel_rfl)
  have e1:(SV.p 0 0).den [f]=fV f:=rfl
  rw [e1] at h
  simpa using h
 ·have hB:Blks 2 [f,g] w:=by
   refine ⟨fun i hi=>?_,fun i j hi hj he=>?_⟩
   ·have hi':i=0∨i=1:=by omega
    rcases hi' with rfl|rfl
    ·exact ⟨c,188,hc⟩
    ·exact ⟨c',188,hc'⟩
   ·have hi':i=0∨i=1:=by omega
    have hj':j=0∨j=1:=by omega
    rcases hi' with rfl|rfl<;>rcases hj' with rfl|rfl
    ·rfl
    ·exact absurd he e
    ·exact absurd he.symm e
    ·rfl
  have h:=eqS_run (P:=Tryz.prog) hB (t:=79) (c:=false) (x:=.p 0 0) (y:=.p 1 0) (r:=false) (by kernel_rfl)
  have e1:(SV.p 0 0).den [f,g]=fV f:=rfl
  have e2:(SV.p 1 0).den [f,g]=fV g:=rfl
  rw [e1,e2] at h
  rw [show (f==g)=false by simpa using e]
  exact h
def MapF (w:World) (r:Nat) (es:List (Nat×Int)):Prop:= ∃ a clock,w.heap[r]? =some (.map a clock)∧a.toList.map (fun e=>(e.key,e.val))=es.map fun p=>(fV p.1,Value.int .i64 p.2)
theorem MapF.kept [Bd] {ts:List TypeId} {w w':World} {r:Nat} {es:List (Nat×Int)} (h:MapF w r es) (hk:Kept ts w w'):MapF w' r es:=by
 obtain ⟨a,c,h1,h2⟩:=h
 exact ⟨a,c,by rw [hk.block r ⟨_,h1,by rintro _ _ _ _ ⟨⟩⟩];exact h1,h2⟩
def findF (f:Nat):List (Nat×Int)→Nat→Option (Nat×Value)
 |[],_=>none
 |p::r,i=>if f==p.1 then some (i,.int .i64 p.2) else findF f r (i+1)
theorem run_askF [Bd] {w:World} {f:Nat} (hf:IsF w f): ∀ (l:List MapEntry) (es:List (Nat×Int)) (i:Nat),l.map (fun e=>(e.key,e.val))=es.map (fun p=>(fV p.1,Value.int .i64 p.2))→(∀ p∈es,IsF w p.1)→
  (Instr.findAsking 79 (fV f) l i).run Tryz.prog w=.ok (findF f es i) w
 |[],[],i,_,_=>rfl
 |[],_::_,_,h,_=>by simp at h
 |_::_,[],_,h,_=>by simp at h
 |e::l,p::es,i,h,hall=>by
  simp only [List.map_cons,List.cons.injEq,Prod.mk.injEq] at h
  obtain ⟨⟨hk,hv⟩,ht⟩:=h
  unfold Instr.findAsking findF
  simp only [Sem.run_bind,hk,run_eqF hf (hall p (.head _)),Result.andThen]
  by_cases he:f=p.1
  ·simp [he,hv]
  ·have he':(f==p.1)=false:=by simpa using he
   rw [he']
   simp only [Bool.false_eq_true,if_false]
   exact run_askF hf l es (i+1) ht (fun q hq=>hall q (.tail _ hq))
theorem run_keyF [Bd] {w:World} {f:Nat} (hf:IsF w f) {a:Array MapEntry} {es:List (Nat×Int)} (h:a.toList.map (fun e=>(e.key,e.val))=es.map (fun p=>(fV p.1,Value.int .i64 p.2))) (hall: ∀ p∈es,IsF w p.1):
  (Instr.findKey 79 (fV f) a.toList).run Tryz.prog w=.ok (findF f es 0) w:=by
 unfold Instr.findKey
 simp only [Sem.run_bind,run_underlying Tryz.underlying79,Result.andThen]
 generalize a.toList=l at *
 match l,es,h with
 |[],[],_=>rfl
 |e::l,p::es,h=> 
  have h0:=h
  simp only [List.map_cons,List.cons.injEq,Prod.mk.injEq] at h0
  have hn:Instr.findNow (.pointer 188) (fV f) (e::l) 0=none:=by
   unfold Instr.findNow
   rw [h0.1.1]
   rfl
  rw [hn]
  exact run_askF hf _ _ 0 h hall
theorem run_checkF [Bd] {w:World} {f:Nat} (b:Bool):(Instr.checkKey b 10000 79 (fV f)).run Tryz.prog w=.ok () w:=by
 rw [show (10000:Nat)=9999+1 from rfl]
 unfold Instr.checkKey
 simp only [Sem.run_bind,run_underlying Tryz.underlying79,Result.andThen,Sem.run_pure]
theorem findF_none [Bd] {f:Nat}: ∀ {es:List (Nat×Int)} {i:Nat},(∀ p∈es,p.1≠f)→findF f es i=none
 |[],_,_=>rfl
 |p::r,i,h=>by
  unfold findF
  rw [if_neg (by simpa using fun e=>h p (.head _) e.symm)]
  exact findF_none (fun q hq=>h q (.tail _ hq))
theorem findF_some [Bd] {f:Nat} {k:Int}: ∀ {es:List (Nat×Int)} {i:Nat},(f,k)∈es→(∀ k',(f,k')∈es→k'=k)→ ∃ j,findF f es i=some (j,.int .i64 k)
 |p::r,i,h,hd=>by
  unfold findF
  by_cases e:f=p.1
  ·have hp:(f,p.2)∈p::r:=by rw [e];exact .head _
   rw [if_pos (by simpa using e),hd p.2 hp]
   exact ⟨i,rfl⟩
  ·rw [if_neg (by simpa using e)]
   refine findF_some (i:=i+1) ?_ (fun k' hk'=>hd k' (.tail _ hk'))
   rcases List.mem_cons.1 h with h|h
   ·exact absurd (congrArg (·.1) h) e
   ·exact h
theorem run_mapNewF [Bd] {w:World} {r f:Nat} {k:Int} {es:List (Nat×Int)} (h:MapF w r es) (hf:IsF w f) (hall: ∀ p∈es,IsF w p.1) (hn: ∀ p∈es,p.1≠f):
  ∃ w',(Instr.mapUpdate 343 (.map (some r)) (fV f) (.int .i64 k)).run Tryz.prog w=.ok () w'∧MapF w' r (es++[(f,k)])∧w'.os=w.os∧w'.tape=w.tape∧w'.output=w.output∧w'.heap.size=w.heap.size∧ ∀ i,i≠r→w'.heap[i]? =w.heap[i]?:=by
 obtain ⟨a,c,h1,h2⟩:=h
 refine ⟨{ w with heap:=w.heap.setIfInBounds r (.map (a.push { key:=fV f,val:=.int .i64 k,born:=c }) (c+1)) },?_,⟨_,_,(heap_set h1).1,by simp [h2]⟩,rfl,rfl,rfl,by simp,fun i hi=>(heap_set h1).2 i hi⟩
 simp only [Instr.mapUpdate,Sem.run_bind,run_underlying Tryz.underlying343,Go.MapKept.run_getObj_map h1,run_checkF,run_keyF hf h2 hall,findF_none hn,Go.MapKept.run_setObj_map _ h1,Result.andThen]
theorem run_mapGetF [Bd] {w:World} {r f:Nat} {k:Int} {es:List (Nat×Int)} (h:MapF w r es) (hf:IsF w f) (hall: ∀ p∈es,IsF w p.1) (hm:(f,k)∈es) (hd: ∀ k',(f,k')∈es→k'=k):
  (Instr.lookup 343 (.map (some r)) (fV f) true).run Tryz.prog w=.ok (.tuple #[.int .i64 k,.bool true]) w:=by
 obtain ⟨a,c,h1,h2⟩:=h
 obtain ⟨j,hj⟩:=findF_some (i:=0) hm hd
 simp only [Instr.lookup,Sem.run_bind,run_underlying Tryz.underlying343,Go.MapKept.run_getObj_map h1,run_checkF,run_keyF hf h2 hall,hj,Sem.run_pure,Result.andThen]
 simp [Sem.run_pure]
theorem Fr.callMap [Bd] {ts:List TypeId} {w0 w w':World} {bs:List Nat} {r:Nat} (h:Fr ts w0 [] bs w) (h1:w'.os=w.os) (h2:w'.tape=w.tape) (h3:w'.output=w.output) (h4:w'.heap.size=w.heap.size) (hb: ∀ i,i≠r→w'.heap[i]? =w.heap[i]?) (hr:w0.heap.size≤r):Fr ts w0 [] bs w':=by
 refine ⟨h.pre,⟨h1.trans h.kept.os,h2.trans h.kept.tape,h3.trans h.kept.output,by rw [h4];exact h.kept.size,fun k hk=>?_,fun k c t f hc=>?_⟩,fun hm k hlt hn=>(hb k (by omega)).trans (h.far hm k hlt hn)⟩
 ·have hlt:=hk.lt
  exact (hb k (by omega)).trans (h.kept.block k hk)
 ·have hlt:=(Array.getElem?_eq_some_iff.1 hc).1
  obtain ⟨c',h1⟩:=h.kept.ty k c t f hc
  exact ⟨c',(hb k (by omega)).trans h1⟩
theorem Sat.callMap [Bd] {bs:List Nat} {H:List SB} {w w':World} {r:Nat} {a:Array MapEntry} {c:Nat} (h:Sat bs H w) (hm:w.heap[r]? =some (.map a c)) (hb: ∀ i,i≠r→w'.heap[i]? =w.heap[i]?) (hz:w'.heap.size=w.heap.size):Sat bs H w':=
 ⟨h.len,h.inj,fun i ob hi=>by
  have hmm:=h.mem i ob hi
  rw [hb _ (fun e=>by rw [e,hm] at hmm;cases hmm)]
  exact hmm,h.lo,by rw [hz];exact h.sz⟩
theorem isF_map [Bd] {w w':World} {f r:Nat} {a:Array MapEntry} {c:Nat} (h:IsF w f) (hm:w.heap[r]? =some (.map a c)) (hb: ∀ i,i≠r→w'.heap[i]? =w.heap[i]?):IsF w' f:=by
 obtain ⟨cs,hc⟩:=h
 exact ⟨cs,(hb _ (fun e=>by rw [e,hm] at hc;cases hc)).trans hc⟩
def enumF (fl:Nat→Nat) (j:Nat):List (Nat×Int):=(List.range j).map fun i=>(fl i,(i:Int))
theorem enumF_succ [Bd] (fl:Nat→Nat) (j:Nat):enumF fl (j+1)=enumF fl j++[(fl j,(j:Int))]:=by
 unfold enumF;rw [List.range_succ,List.map_append];rfl
theorem enumF_mem [Bd] {fl:Nat→Nat} {j:Nat} {p:Nat×Int} (h:p∈enumF fl j): ∃ i,i < j∧p=(fl i,(i:Int)):=by
 unfold enumF at h
 obtain ⟨i,hi,rfl⟩:=List.mem_map.1 h
 exact ⟨i,List.mem_range.1 hi,rfl⟩
theorem run_map0 [Bd] {P:Program} (t:TypeId) (w:World):(Instr.makeMap t none).run P w=.ok (.map (some w.heap.size)) (w.alloc (.map #[] 0)):=by
 simp [Instr.makeMap,newObj,Result.andThen]
 rfl
theorem go_map0 [Bd] {P:Program} {Q:Exit→Act→World→Prop} {bs:List Nat} {w:World} {s:ST} (t:TypeId) (H:List SB) (h:curOp s=some (.makeMap t none)) (hs:Wk bs s w) (hH:s.H=H)
  (hk: ∀ r w',w.heap.size=r→Ext w w'→w'.heap[r]? =some (.map #[] 0)→Wk bs (afterC s (.oc (.map (some r)) rfl) H) w'→kx P Q (afterC s (.oc (.map (some r)) rfl) H).K .normal (actS bs (afterC s (.oc (.map (some r)) rfl) H).T) w'):kx P Q s.K .normal (actS bs s.T) w:=by
 have hE:Ext w (w.alloc (.map #[] 0)):=(Kept.refl [] w).alloc _
 refine go_op (.makeMap t none) h hs (w.alloc (.map #[] 0)) (.oc (.map (some w.heap.size)) rfl) [] H (.value (.map (some w.heap.size))) (fun o ho=>?_) (.inl (by simp only [SV.den])) (by rw [List.append_nil];exact (hs.satE H hH).keep hE (outH_nil H)) (fun hW=>?_)
 ·simp only [execOp,ho,Option.map_none,Sem.run_bind,run_map0,Result.andThen,Sem.run_pure]
 ·rw [List.append_nil] at hW ⊢
  exact hk _ _ rfl hE (heap_alloc_new w _) hW
theorem go_putF [Bd] {Q:Exit→Act→World→Prop} {bs:List Nat} {w:World} {s:ST} (x1 x2 x3:Operand) (r f:Nat) (k:Int) (es:List (Nat×Int)) (H:List SB) (h:curOp s=some (.mapUpdate 343 x1 x2 x3)) (h1:(evS s.T x1).den bs=.map (some r)) (h2:(evS s.T x2).den bs=fV f) (h3:(evS s.T x3).den bs=.int .i64 k) (hs:Wk bs s w) (hH:s.H=H) (hM:MapF w r es) (hf:IsF w f) (hall: ∀ p∈es,IsF w p.1) (hn: ∀ p∈es,p.1≠f)
  (hk: ∀ w',MapF w' r (es++[(f,k)])→w'.os=w.os→w'.tape=w.tape→w'.output=w.output→w'.heap.size=w.heap.size→(∀ i,i≠r→w'.heap[i]? =w.heap[i]?)→Wk bs (afterC s .un H) w'→kx Tryz.prog Q (afterC s .un H).K .normal (actS bs (afterC s .un H).T) w'):kx Tryz.prog Q s.K .normal (actS bs s.T) w:=by
 obtain ⟨w',hr,q1,q2,q3,q4,q5,q6⟩:=run_mapNewF (k:=k) hM hf hall hn
 obtain ⟨a,c,hm,_⟩:=hM
 refine go_op (.mapUpdate 343 x1 x2 x3) h hs w' .un [] H .skip (fun o ho=>?_) (.inr ⟨rfl,rfl⟩) (by rw [List.append_nil];exact (hs.satE H hH).callMap hm q6 q5) (fun hW=>?_)
 ·have e1:(actS bs s.T).eval x1=.map (some r):=by rw [ev_den,h1]
  have e2:(actS bs s.T).eval x2=fV f:=by rw [ev_den,h2]
  have e3:(actS bs s.T).eval x3=.int .i64 k:=by rw [ev_den,h3]
  simp only [execOp,ho,e1,e2,e3,Sem.run_bind,hr,Result.andThen,Sem.run_pure]
 ·rw [List.append_nil] at hW ⊢
  exact hk w' q1 q2 q3 q4 q5 q6 hW
theorem go_getF [Bd] {Q:Exit→Act→World→Prop} {bs:List Nat} {w:World} {s:ST} (x1 x2:Operand) (r f:Nat) (k:Int) (es:List (Nat×Int)) (H:List SB) (h:curOp s=some (.lookup 343 x1 x2 true)) (h1:(evS s.T x1).den bs=.map (some r)) (h2:(evS s.T x2).den bs=fV f) (hs:Wk bs s w) (hH:s.H=H) (hM:MapF w r es) (hf:IsF w f) (hall: ∀ p∈es,IsF w p.1) (hm:(f,k)∈es) (hd: ∀ k',(f,k')∈es→k'=k)
  (hk:Wk bs (afterC s (.tup [.si .i64 k,.bl true]) H) w→kx Tryz.prog Q (afterC s (.tup [.si .i64 k,.bl true]) H).K .normal (actS bs (afterC s (.tup [.si .i64 k,.bl true]) H).T) w):kx Tryz.prog Q s.K .normal (actS bs s.T) w:=by
 refine go_op (.lookup 343 x1 x2 true) h hs w (.tup [.si .i64 k,.bl true]) [] H (.value (.tuple #[.int .i64 k,.bool true])) (fun o ho=>?_) (.inl rfl) (by rw [List.append_nil];exact hs.satE H hH) (fun hW=>?_)
 ·have e1:(actS bs s.T).eval x1=.map (some r):=by rw [ev_den,h1]
  have e2:(actS bs s.T).eval x2=fV f:=by rw [ev_den,h2]
  simp only [execOp,ho,e1,e2,Sem.run_bind,run_mapGetF hM hf hall hm hd,Result.andThen,Sem.run_pure]
 ·rw [List.append_nil] at hW ⊢
  exact hk hW
noncomputable def S91 (A:Addr) (n c r:Nat):ST:=runS Tryz.prog ⟨[4000000],0,[],[],0⟩ 200 (afterC (runS Tryz.prog ⟨[4000000],0,[],[],0⟩ 200 (startS Tryz.f91 [.sl A n c] [])) (.oc (.map (some r)) rfl) [])
def T91 (A:Addr) (n c r:Nat) (j:Int) (xs:Nat→Value):List SV:=[.sl A n c,.un,.nf,.p 0 0,.va (xs 4),.va (xs 5),.oc (.map (some r)) rfl,.sl A n c,.si .i64 n,.si .i64 j,.va (xs 10),.va (xs 11),.va (xs 12),.va (xs 13),.va (xs 14),.va (xs 15),.va (xs 16),.va (xs 17),.un]
def H91 (r:Nat):List SB:=[⟨343,[.oc (.map (some r)) rfl]⟩]
def J91 [Bd] (A:Addr) (n c r b3:Nat) (fl:Nat→Nat) (w0:World) (m:Nat) (bs:List Nat) (T:List SV) (H:List SB) (w:World):Prop:=
 ∃ (j:Nat) (xs:Nat→Value),j≤n∧m+j=n∧bs=[b3]∧T=T91 A n c r j xs∧H=H91 r∧MapF w r (enumF fl j)∧Fr [4000000] w0 [] bs w∧(∀ i,i < n→IsF w (fl i))
theorem c91 [Bd] (A:Addr) (n c:Nat) (fl:Nat→Nat) (w:World) (hn:n < 2^30) (hinj: ∀ i j,i < n→j < n→fl i=fl j→i=j) (hfiles: ∀ i,i < n→w.cell? (A.add i)=some (fV (fl i))) (hF0: ∀ i,i < n→IsF w (fl i)) (hB0:autoParam (Bd.B≤w.heap.size) sz0._auto_1):
  Calls Tryz.prog 91 #[.slice (some A) n c] w fun e w'=> ∃ mb r,e=.returned (.func (.func 120) #[] #[.pointer (some ⟨mb,0,none⟩)])∧w.heap.size≤mb∧w'.heap[mb]? =some (.cells #[.map (some r)] 343 (0,0))∧MapF w' r (enumF fl n)∧Ext w w':=by
 refine gs (bs:=[]) [.sl A n c] [] Tryz.func91 (sat0 w) (fun hW=>?_)
 refine gf0 200 ⟨[4000000],0,[],[],0⟩ hW (Fr.refl [4000000] w []) fun w1 hK1 hF1 hW1=>?_
 refine go_map0 343 [] (by kernel_rfl) hW1 (by kernel_rfl) (fun r w2 hr hE2 hm2 hW2=>?_)
 have hrn:w.heap.size≤r:=by have:=hF1.kept.size;omega
 have hM2:MapF w2 r (enumF fl 0):=⟨#[],0,hm2,rfl⟩
 refine go_runF (bs:=[]) 200 ⟨[4000000],0,[],[],0⟩ (by kernel_rfl) hW2 (hF1.callF (nw:=[]) hE2 (Far.of_ext hE2 [])) rfl [] (by kernel_rfl) trivial ?_
 intro nw w3 hK3 hF3 hW3
 obtain ⟨b3,rfl⟩:=nw1 (hW3.num 1 (by kernel_rfl)) rfl
 have hb3:w.heap.size≤b3:=hF3.lo (nw:=[b3]) b3 (by simp)
 refine go_loop (s:=S91 A n c r) (bs:=[b3]) (J91 A n c r b3 fl w) n (by kernel_rfl) hW3 (fun xs=>T91 A n c r 0 xs) (H91 r) (by kernel_rfl) (by kernel_rfl)
  (fun xs=>⟨0,xs,by omega,by omega,rfl,rfl,rfl,hM2.kept hK3,hF3,fun i hi=>(hF0 i hi).kept hF3.kept⟩) ?_ ?_
 ·rintro m bs' T H w' ⟨j,xs,_,_,rfl,_⟩
  exact ⟨[],rfl⟩
 ·rintro m bs' T H w' ⟨j,xs,hj,hm,rfl,rfl,rfl,hM,hF,hIs⟩ hW'
  by_cases hlt:j < n
  ·refine go_runF (s:=bodyS (S91 A n c r) (Hand (J91 A n c r b3 fl w) m) (T91 A n c r j xs) (H91 r)) (bs:=[b3]) 200 ⟨[4000000],1,[],[(10,true)],0⟩ (by kernel_rfl) hW' hF rfl [(decide ((j:Int) < n),true),(decide ((0:Int)≤j),true),(decide ((j:Int) < n),true)] (by kernel_rfl) ⟨by simpa using hlt,by simp,by simpa using hlt,trivial⟩ ?_
   intro nw w4 hK4 hF4 hW4
   obtain rfl:=nw0 (hW4.num 1 (by kernel_rfl)) rfl
   refine go_load 79 (.tmp 12) (A.add ((j:Int).toNat*1)) (.ptr ⟨fl j,0,none⟩) (H91 r) (by kernel_rfl) (by kernel_rfl) (by kernel_rfl) hW4 (by kernel_rfl) ?_ (fun hW5=>?_)
   ·rw [Int.toNat_natCast,Nat.mul_one]
    exact Ext.cell ((hF4.farE).ext hF4.kept) (hfiles j hlt)
   refine gf0 (bs:=[b3]) 200 ⟨[4000000],1,[],[],0⟩ hW5 hF4 fun w6 hK6 hF6 hW6=>?_
   have hIs6: ∀ i,i < n→IsF w6 (fl i):=fun i hi=>((hIs i hi).kept hK4).kept hK6
   refine go_putF (.tmp 14) (.tmp 15) (.tmp 16) r (fl j) j (enumF fl j) (H91 r) (by kernel_rfl) (by kernel_rfl) (by kernel_rfl) (by kernel_rfl) hW6 (by kernel_rfl) ((hM.kept hK4).kept hK6) (hIs6 j hlt) (fun p hp=>?_) (fun p hp=>?_) (fun w7 hM7 q2 q3 q4 q5 q6 hW7=>?_)
   ·obtain ⟨i,hi,rfl⟩:=enumF_mem hp
    exact hIs6 i (by omega)
   ·obtain ⟨i,hi,rfl⟩:=enumF_mem hp
    intro he
    have:=hinj i j (by omega) hlt he
    omega
   obtain ⟨a6,c6,hm6,_⟩:=(hM.kept hK4).kept hK6
   have hF7:=hF6.callMap q2 q3 q4 q5 q6 hrn
   refine gf0 (bs:=[b3]) 200 ⟨[4000000],1,[],[],0⟩ hW7 hF7 fun w8 hK8 hF8 hW8=>?_
   have hs8:=hW8.sq (H91 r)
   refine go_fin (Hand (J91 A n c r b3 fl w) m) (by kernel_rfl) (fun xs=>T91 A n c r (IntKind.i64.wrap ((j:Int)+1)) xs) (by kernel_rfl) (fun xs=>?_)
   rw [wrap_succ j (by omega)]
   refine ⟨m - 1,by omega,[b3],_,_,rfl,hs8,j+1,xs,by omega,by omega,rfl,rfl,rfl,?_,hF8,fun i hi=>(isF_map (hIs6 i hi) hm6 q6).kept hK8⟩
   rw [enumF_succ]
   exact hM7.kept hK8
  ·obtain rfl:j=n:=by omega
   refine go_runF (s:=bodyS (S91 A j c r) (Hand (J91 A j c r b3 fl w) m) (T91 A j c r j xs) (H91 r)) (bs:=[b3]) 200 ⟨[4000000],1,[],[(10,false)],0⟩ (by kernel_rfl) hW' hF rfl [(decide ((j:Int) < j),false)] (by kernel_rfl) ⟨by simp,trivial⟩ ?_
   intro nw w4 hK4 hF4 hW4
   obtain rfl:=nw0 (hW4.num 1 (by kernel_rfl)) rfl
   have hs4:=hW4.sq (H91 r)
   exact gt (.fn 120 [.p 0 0]) hW4.sat ⟨b3,r,rfl,hb3,hs4.mem 0 _ rfl,hM.kept hK4,(hF4.farE).ext hF4.kept⟩
theorem c91_0 [Bd] (w:World) (hB0:autoParam (Bd.B≤w.heap.size) sz0._auto_1):Calls Tryz.prog 91 #[.slice none 0 0] w fun e w'=> ∃ mb,e=.returned (.func (.func 120) #[] #[.pointer (some ⟨mb,0,none⟩)])∧Ext w w':=by
 refine gs (bs:=[]) [.ns] [] Tryz.func91 (sat0 w) (fun hW=>?_)
 refine gr0 200 ⟨[],0,[],[],1⟩ hW fun w1 hE1 hW1=>?_
 refine go_map0 343 [] (by kernel_rfl) hW1 (by kernel_rfl) (fun r w2 hr hE2 hm2 hW2=>?_)
 refine gr1 (bs:=[]) 200 ⟨[],0,[],[],1⟩ hW2 fun b3 w3 _ hE3 hW3=>?_
 exact gt (.fn 120 [.p 0 0]) hW3.sat ⟨b3,rfl,hE1.trans (hE2.trans hE3)⟩
theorem c120 [Bd] (mb r i j n:Nat) (fl:Nat→Nat) (w:World) (hij:i < j) (hj:j < n) (hinj: ∀ i j,i < n→j < n→fl i=fl j→i=j) (hs:Sat [mb] (H91 r) w) (hM:MapF w r (enumF fl n)) (hIs: ∀ i,i < n→IsF w (fl i)):
  Calls Tryz.prog 120 #[fV (fl j),fV (fl i),.pointer (some ⟨mb,0,none⟩)] w fun e w'=>e=.returned (.int .i64 1)∧Ext w w':=by
 have hall: ∀ p∈enumF fl n,IsF w p.1:=fun p hp=>by obtain ⟨k,hk,rfl⟩:=enumF_mem hp;exact hIs k hk
 have hin: ∀ k,k < n→(fl k,(k:Int))∈enumF fl n:=fun k hk=>List.mem_map.2 ⟨k,List.mem_range.2 hk,rfl⟩
 have hun: ∀ k,k < n→ ∀ k',(fl k,k')∈enumF fl n→k'=(k:Int):=fun k hk k' h=>by
  obtain ⟨l,hl,e⟩:=enumF_mem h
  simp only [Prod.mk.injEq] at e
  rw [e.2,hinj k l hk hl e.1]
 refine gs (bs:=[mb]) [.ptr ⟨fl j,0,none⟩,.ptr ⟨fl i,0,none⟩,.p 0 0] _ Tryz.func120 hs (fun hW=>?_)
 refine gr0 200 ⟨[],1,[],[],0⟩ hW fun w1 hE1 hW1=>?_
 refine go_getF (.tmp 11) (.tmp 12) r (fl j) j (enumF fl n) (H91 r) (by kernel_rfl) (by kernel_rfl) (by kernel_rfl) hW1 (by kernel_rfl) (hM.kept hE1) ((hIs j hj).kept hE1) (fun p hp=>(hall p hp).kept hE1) (hin j hj) (hun j hj) (fun hW2=>?_)
 refine gr0 (bs:=[mb]) 200 ⟨[],1,[],[],0⟩ hW2 fun w3 hE3 hW3=>?_
 have hX:=hE1.trans hE3
 refine go_getF (.tmp 17) (.tmp 18) r (fl i) i (enumF fl n) (H91 r) (by kernel_rfl) (by kernel_rfl) (by kernel_rfl) hW3 (by kernel_rfl) (hM.kept hX) ((hIs i (by omega)).kept hX) (fun p hp=>(hall p hp).kept hX) (hin i (by omega)) (hun i (by omega)) (fun hW4=>?_)
 refine go_run (bs:=[mb]) 200 ⟨[],1,[],[(29,false),(33,true)],0⟩ (by kernel_rfl) hW4 rfl [(decide ((j:Int) < i),false),(decide ((j:Int)>i),true)] (by kernel_rfl) ⟨by simp;omega,by simp;omega,trivial⟩ ?_
 intro nw w5 _ hE5 hW5
 exact gt (.it .i64 1) hW5.sat ⟨rfl,hX.trans hE5⟩
def FRow (w:World) (A:Addr) (n:Nat) (fl:Nat→Nat):Prop:= ∃ cs f,w.heap[A.block]? =some (.cells cs 79 f)∧ ∀ i,i < n→w.cell? (A.add i)=some (fV (fl i))
theorem cell_add [Bd] {w:World} {A:Addr} {i:Nat}:(A.add i).block=A.block:=by
 unfold Addr.add
 split<;>rfl
theorem FRow.kept [Bd] {ts:List TypeId} {w w':World} {A:Addr} {n:Nat} {fl:Nat→Nat} (h:FRow w A n fl) (hk:Kept ts w w') (ht:79∉ts:=by simp):FRow w' A n fl:=by
 obtain ⟨cs,f,h1,h2⟩:=h
 have hs:=solid_of h1 ht
 exact ⟨cs,f,(hk.block _ hs).trans h1,fun i hi=>hk.cell (p:=A.add i) (by rw [cell_add (w:=w)];exact hs) (h2 i hi)⟩
noncomputable def Z46 (n:Nat) (cs:List Bool):List KI:=skK 8 n cs [.code (Tryz.f46.body.getD .skip)]
def keep46 (l:Int):List (Nat×SV):=[(0,.fn 65 []),(1,.nf),(2,.it .i64 0),(7,.p 0 0),(8,.np),(9,.p 1 0),(10,.it .i64 l),(14,.it .i64 l)]
def keepL (A:Addr) (n c:Nat) (j:SV):List (Nat×SV):=[(0,.fn 65 []),(1,.nf),(2,.it .i64 0),(7,.p 0 0),(8,.np),(9,.p 1 0),(10,.it .i64 1),(14,.it .i64 1),(53,.sl A n c),(54,.si .i64 n),(55,j)]
abbrev filesL (A:Addr) (n c:Nat):List SV:=[.ns,.sl A n c,.ns,.ns,.ns,.ns,.ns]
def V46_0:List SV:=[.it .i32 0,.np,.ns,.it .i64 0,.it .u64 0,.it .u64 0,.it .u64 0,.np,.nf,.it .i64 0,.it .u64 0,.it .u64 0,.it .u64 0,.np,.nf,.it .i64 0,.it .u64 0,.it .u64 0,.it .u64 0,.np,.nf,.it .i64 0,.it .u64 0,.it .u64 0,.it .u64 0,.np,.nf,.it .i64 0,.it .u64 0,.it .u64 0,.it .u64 0,.np,.nf,.it .i64 0,.it .u64 0,.it .u64 0,.it .u64 0,.np,.nf,.it .i64 0,.it .u64 0,.it .u64 0,.it .u64 0,.np,.nf,.it .i64 0,.it .u64 0,.it .u64 0,.it .u64 0,.np,.nf,.it .i64 0,.it .u64 0,.it .u64 0,.it .u64 0,.np,.nf,.it .i64 0,.it .u64 0,.it .u64 0,.it .u64 0,.np,.nf,.it .i64 0,.it .u64 0,.it .u64 0,.it .u64 0,.np,.nf,.it .i64 0,.it .u64 0,.it .u64 0,.it .u64 0,.np,.nf,.it .i64 0,.it .u64 0,.it .u64 0,.it .u64 0,.np,.nf,.it .i64 0,.it .u64 0,.it .u64 0,.it .u64 0,.np,.nf,.nf,.it .i64 0,.np,.np,.np]
abbrev TS46:List TypeId:=[286,214,360,311]
def T46 (A:Addr) (n c:Nat) (j:Int) (xs:Nat→Value):List SV:=mkT 81 (keepL A n c (.si .i64 j)) xs
def H46 (A:Addr) (n c mb0 mb nb gb1:Nat) (sz:Int):List SB:=[⟨149,filesL A n c⟩,⟨286,[.it .i32 0,.np,.ns,.it .i64 0,.it .u64 0,.it .u64 0,.it .u64 0,.np,.fn 92 [],.it .i64 1,.si .u64 sz,.it .u64 0,.it .u64 0,.ptr ⟨nb,0,none⟩,.fn 103 [.ptr ⟨gb1,0,none⟩],.it .i64 0,.it .u64 0,.it .u64 0,.it .u64 0,.np,.nf,.it .i64 0,.it .u64 0,.it .u64 0,.it .u64 0,.np,.nf,.it .i64 0,.it .u64 0,.it .u64 0,.it .u64 0,.np,.nf,.it .i64 0,.it .u64 0,.it .u64 0,.it .u64 0,.np,.nf,.it .i64 0,.it .u64 0,.it .u64 0,.it .u64 0,.np,.nf,.it .i64 0,.it .u64 0,.it .u64 0,.it .u64 0,.np,.nf,.it .i64 0,.it .u64 0,.it .u64 0,.it .u64 0,.np,.nf,.it .i64 0,.it .u64 0,.it .u64 0,.it .u64 0,.np,.nf,.it .i64 0,.it .u64 0,.it .u64 0,.it .u64 0,.np,.nf,.it .i64 0,.it .u64 0,.it .u64 0,.it .u64 0,.np,.nf,.it .i64 0,.it .u64 0,.it .u64 0,.it .u64 0,.np,.nf,.it .i64 0,.it .u64 0,.it .u64 0,.it .u64 0,.np,.nf,.nf,.it .i64 0,.np,.np,.np]⟩]
def J46 [Bd] (A:Addr) (n c mb0 mb nb gb1 b7 vb:Nat) (w0:World) (m:Nat) (bs:List Nat) (T:List SV) (H:List SB) (w:World):Prop:=
 ∃ (j:Nat) (sz:Int) (xs:Nat→Value),j≤n∧m+j=n∧bs=[b7,vb]∧T=T46 A n c j xs∧H=H46 A n c mb0 mb nb gb1 sz∧Kept TS46 w0 w
abbrev g92:V1:=⟨.func (.func 92) #[] #[],rfl⟩
def fx:Option V1→SV|none=>.ns|some v=>o1 v
abbrev HCl (y:Option V1) (f:Nat→Value):List SB:=[⟨149,[.ns,fx y,.ns,.ns,.ns,.ns,.ns]⟩,⟨286,VS f g92⟩]
noncomputable def ZL (k:Nat):List KI:=Z46 (19+30*k) ([true,true,false,true]++(List.replicate (k - 1) [false,false,true]).flatten)
def PLv [Bd] (w0:World) (b7 vb k:Nat):Prop:= ∀ (y:Option V1) (f:Nat→Value) (xs:Nat→Value) (w:World),(k=1→y=none)→Kept TS46 w0 w→Wk [b7,vb] ⟨ZL k,mkT 81 (keep46 k) xs,HCl y f,[]⟩ w→kx Tryz.prog (bodyPost Tryz.prog Tryz.f46 fun e w'=> ∃ vb,e=.returned (.pointer (some ⟨vb,0,none⟩))∧Kept TS46 w0 w') (ZL k) .normal (actS [b7,vb] (mkT 81 (keep46 k) xs)) w
theorem lvl1 [Bd] (w0:World) (b7 vb k:Nat) (hk:k=1∨k=2∨k=3∨k=4∨k=5∨k=6) (ih:k < 6→PLv w0 b7 vb (k+1)):PLv w0 b7 vb k:=by
 intro y f xs w hy hK hW
 let K:=k
 let Y:=y
 rcases hk with rfl|rfl|rfl|rfl|rfl|rfl
 all_goals rcases y with _|v
 case inl.some=>exact absurd (hy rfl) (by simp)
 all_goals
   refine gd (s:=⟨ZL K,mkT 81 (keep46 K) xs,HCl Y f,[]⟩) [286] [] hW (fun hD=>?_)
   refine gr0 (bs:=[b7,vb]) 200 ⟨[],2,[],[],1⟩ hD fun w2 hK2 hW2=>?_
   have hs2:=hW2.sq (HCl Y f)
   refine gcd 91 [.ns] [286] w.drew hW2 (fun hC=>?_)
   refine (c91_0 w2).mono ?_
   rintro e w3 ⟨mb,rfl,hE3⟩
   refine ⟨.fn 120 [.ptr ⟨mb,0,none⟩],[],_,rfl,hs2.kq hE3,hC.trans (hE3.mono (by simp)),fun hW3=>?_⟩
   refine gr0 (bs:=[b7,vb]) 200 ⟨[],2,[],[],1⟩ hW3 fun w4 hK4 hW4=>?_
   have hs4:=hW4.sq (HCl Y f)
   refine gcd 61 [.fn 120 [.ptr ⟨mb,0,none⟩],.ns] [286] w.drew hW4 (fun hC=>?_)
   refine (c61_0 120 #[.pointer (some ⟨mb,0,none⟩)] w4).mono ?_
   rintro e w5 ⟨rfl,hE5⟩
   refine ⟨.tup [.agg [.np,.fn 120 [.ptr ⟨mb,0,none⟩]],.agg (sliceS .np 0 (.fn 120 [.ptr ⟨mb,0,none⟩]))],[],_,rfl,hs4.kq hE5,hC.trans (hE5.mono (by simp)),fun hW5=>?_⟩
   refine gr0 (bs:=[b7,vb]) 200 ⟨[286],2,[],[],1⟩ hW5 fun w6 hK6 hW6=>?_
   have hK6:Kept TS46 w0 w6:=hK.tr ((Kept.refl [] w).drew.trans (hK2.trans (hE3.trans (hK4.trans hE5))) |>.tr hK6 (ts:=[286])) (ts:=TS46)
   have hs6:=hW6.sq (HCl Y fun i=>if i=3+6*K then .int .i64 K else if i=7+6*K then .pointer none else if i=8+6*K then (SV.fn 120 [.ptr ⟨mb,0,none⟩]).den [] else f i)
   refine gc 62 [.fn 65 []] hW6 ((c62 (fnv 65) rfl w6).mono ?_)
   rintro e w8 ⟨gb,rfl,_,_,hE8⟩
   refine ⟨.fn 103 [.ptr ⟨gb,0,none⟩],[],_,rfl,hs6.kq hE8,fun hW8=>?_⟩
   refine gr0 (bs:=[b7,vb]) 200 ⟨[286],2,[],[],1⟩ hW8 fun w9 hK9 hW9=>?_
   have hK9:Kept TS46 w0 w9:=hK6.tr (hE8.tr hK9 (ts:=[286])) (ts:=TS46)
   let F:Nat→Value:=fun i=>if i=3+6*K then .int .i64 K else if i=7+6*K then .pointer none else if i=8+6*K then (SV.fn 103 [.ptr ⟨gb,0,none⟩]).den [] else f i
   have hs9:=hW9.sq (HCl Y F)
   first
    |exact go_cut (ZL (K+1)) 81 (keep46 ((K+1:Nat):Int)) (HCl Y F) (by kernel_rfl) (by kernel_rfl) (by kernel_rfl) hW9 hs9 fun ys hW=>ih (by decide) Y F ys w9 (fun h=>absurd h (by decide)) hK9 hW
    |(refine gc 93 [.p 1 0,.fn 65 [],.nf,.it .i64 0] hW9 ?_
      have hvb:Sat [vb] [⟨286,VS F g92⟩] w9:=hs9.sub [1] (by decide) (by simp) rfl ⟨hs9.memC 1 rfl (by kernel_rfl),trivial⟩
      refine (c93 _ _ ⟨fnv 65,rfl⟩ ⟨.nilFunc,rfl⟩ vb w9 hvb).mono ?_
      rintro e wL ⟨rfl,hKL,_,f',hvL⟩
      have hsL:Sat ([b7,vb]++[]) (HCl Y f') wL:=hs9.re rfl ⟨hs9.kp hKL 0 _ rfl rfl,hvL.memC 0 rfl (by kernel_rfl),trivial⟩
      refine ⟨.ni,[],_,rfl,hsL,fun hWL=>?_⟩
      refine gr0 (bs:=[b7,vb]) 200 ⟨[],2,[],[],0⟩ hWL fun wM hKM hWM=>?_
      exact gt (.p 1 0) hWM.sat ⟨vb,rfl,hK9.tr (hKL.tr hKM (ts:=[286])) (ts:=TS46)⟩)
theorem lvls [Bd] (w0:World) (b7 vb k:Nat) (h1:1≤k) (h6:k≤6):PLv w0 b7 vb k:=by
 have h:=fun k hk=>lvl1 w0 b7 vb k hk
 have p6:=h 6 (by decide) (fun h=>absurd h (by decide))
 have p5:=h 5 (by decide) (fun _=>p6)
 have p4:=h 4 (by decide) (fun _=>p5)
 have p3:=h 3 (by decide) (fun _=>p4)
 have p2:=h 2 (by decide) (fun _=>p3)
 have p1:=h 1 (by decide) (fun _=>p2)
 rcases (by omega:k=1∨k=2∨k=3∨k=4∨k=5∨k=6) with rfl|rfl|rfl|rfl|rfl|rfl<;>assumption
abbrev k40_0 (A:Addr) (n:Nat) (c:Nat):List SB:=[⟨149,filesL A n c⟩,⟨286,[.it .i32 0,.np,.ns,.it .i64 0,.it .u64 0,.it .u64 0,.it .u64 0,.np,.fn 92 [],.it .i64 0,.it .u64 0,.it .u64 0,.it .u64 0,.np,.nf,.it .i64 0,.it .u64 0,.it .u64 0,.it .u64 0,.np,.nf,.it .i64 0,.it .u64 0,.it .u64 0,.it .u64 0,.np,.nf,.it .i64 0,.it .u64 0,.it .u64 0,.it .u64 0,.np,.nf,.it .i64 0,.it .u64 0,.it .u64 0,.it .u64 0,.np,.nf,.it .i64 0,.it .u64 0,.it .u64 0,.it .u64 0,.np,.nf,.it .i64 0,.it .u64 0,.it .u64 0,.it .u64 0,.np,.nf,.it .i64 0,.it .u64 0,.it .u64 0,.it .u64 0,.np,.nf,.it .i64 0,.it .u64 0,.it .u64 0,.it .u64 0,.np,.nf,.it .i64 0,.it .u64 0,.it .u64 0,.it .u64 0,.np,.nf,.it .i64 0,.it .u64 0,.it .u64 0,.it .u64 0,.np,.nf,.it .i64 0,.it .u64 0,.it .u64 0,.it .u64 0,.np,.nf,.it .i64 0,.it .u64 0,.it .u64 0,.it .u64 0,.np,.nf,.nf,.it .i64 0,.np,.np,.np]⟩]
theorem c46 [Bd] (A:Addr) (n c:Nat) (fl:Nat→Nat) (w:World) (hn1:1≤n) (hn:n≤10) (hinj: ∀ i j,i < n→j < n→fl i=fl j→i=j) (hrow:FRow w A n fl) (hIs: ∀ i,i < n→ ∃ m:FM,w.heap[fl i]? =some (.cells (SV.denL [] (fmS m)).toArray 188 (0,0))) (hfb: ∀ i,i < n→FB w (fl i)) (hB0:autoParam (Bd.B≤w.heap.size) sz0._auto_1):
  Calls Tryz.prog 46 #[fnv 65,.nilFunc,.int .i64 0,.agg #[.slice none 0 0,.slice (some A) n c,.slice none 0 0,.slice none 0 0,.slice none 0 0,.slice none 0 0,.slice none 0 0]] w fun e w'=> ∃ vb,e=.returned (.pointer (some ⟨vb,0,none⟩))∧Kept TS46 w w':=by
 refine gs (bs:=[]) [.fn 65 [],.nf,.it .i64 0,.agg (filesL A n c)] [] Tryz.func46 (sat0 w) (fun hW=>?_)
 refine gr2 200 ⟨[],0,[],[],9⟩ hW fun b7 vb w1 _ hK1 hW1=>?_
 have hs1:=hW1.sq ([⟨149,filesL A n c⟩,⟨286,V46_0⟩])
 refine gd [286] [] hW1 (fun hD=>?_)
 have hKd1:Kept [] w1 w1.drew:=(Kept.refl _ w1).drew
 refine gr0 (bs:=[b7,vb]) 200 ⟨[],2,[],[],1⟩ hD fun w2 hK2 hW2=>?_
 have hs2:=hW2.sq ([⟨149,filesL A n c⟩,⟨286,V46_0⟩])
 refine gcd 91 [.ns] [286] w1.drew hW2 (fun hC=>?_)
 refine (c91_0 w2).mono ?_
 rintro e w3 ⟨mb0,rfl,hE3⟩
 have hs3:=hs2.kq hE3
 refine ⟨.fn 120 [.ptr ⟨mb0,0,none⟩],[],_,rfl,hs3,hC.trans (hE3.mono (by simp)),fun hW3=>?_⟩
 refine gr0 (bs:=[b7,vb]) 200 ⟨[],2,[],[],1⟩ hW3 fun w4 hK4 hW4=>?_
 have hs4:=hW4.sq ([⟨149,filesL A n c⟩,⟨286,V46_0⟩])
 refine gcd 61 [.fn 120 [.ptr ⟨mb0,0,none⟩],.ns] [286] w1.drew hW4 (fun hC=>?_)
 refine (c61_0 120 #[.pointer (some ⟨mb0,0,none⟩)] w4).mono ?_
 rintro e w5 ⟨rfl,hE5⟩
 have hs5:=hs4.kq hE5
 refine ⟨.tup [.agg [.np,.fn 120 [.ptr ⟨mb0,0,none⟩]],.agg (sliceS .np 0 (.fn 120 [.ptr ⟨mb0,0,none⟩]))],[],_,rfl,hs5,hC.trans (hE5.mono (by simp)),fun hW5=>?_⟩
 refine gr0 (bs:=[b7,vb]) 200 ⟨[286],2,[],[],1⟩ hW5 fun w6 hK6 hW6=>?_
 have hs6:=hW6.sq ((k40_0 A n c))
 refine go_cut (Z46 49 [true,true,false,true]) 81 (keep46 1) (k40_0 A n c) (by kernel_rfl) (by kernel_rfl) (by kernel_rfl) hW6 hs6 (fun xs1 hcut=>?_)
 have hW6:=hcut
 clear hcut
 refine gd [286,214,360,311] [] hW6 (fun hD=>?_)
 have hKd6:Kept [] w6 w6.drew:=(Kept.refl _ w6).drew
 refine gr0 (bs:=[b7,vb]) 200 ⟨[],2,[],[],1⟩ hD fun w7 hK7 hW7=>?_
 have hs7:=hW7.sq ((k40_0 A n c))
 have hKA:Kept [286] w w7:=(hK1.tr (hKd1.tr (hK2.tr (hE3.tr (hK4.tr (hE5.tr (hK6.tr (hKd6.tr hK7 (ts:=[286])) (ts:=[286])) (ts:=[286])) (ts:=[286])) (ts:=[286])) (ts:=[286])) (ts:=[286])) (ts:=[286]))
 have hrowA:=hrow.kept hKA
 have hIsA: ∀ i,i < n→IsF w7 (fl i):=fun i hi=>by obtain ⟨m,hm⟩:=hIs i hi;exact (show IsF w (fl i) from ⟨_,hm⟩).kept hKA
 refine gcd 91 [.sl A n c] [286,214,360,311] w6.drew hW7 (fun hC=>?_)
 refine (c91 A n c fl w7 (by omega) hinj (by obtain ⟨_,_,_,h⟩:=hrowA;exact h) hIsA).mono ?_
 rintro e w8 ⟨mb,r,rfl,hmz,hmb,hM,hE8⟩
 have hzmb:Bd.B≤mb:=Nat.le_trans hs7.sz hmz
 have hs8:=hs7.kq hE8
 refine ⟨.fn 120 [.ptr ⟨mb,0,none⟩],[],_,rfl,hs8,hC.trans (hE8.mono (by simp)),fun hW8=>?_⟩
 refine gr0 (bs:=[b7,vb]) 200 ⟨[],2,[],[],1⟩ hW8 fun w9 hK9 hW9=>?_
 have hs9:=hW9.sq ((k40_0 A n c))
 have hMA:=hM.kept hK9
 have hmbA:=(hK9.block mb (solid_of hmb (by simp))).trans hmb
 have hIsB: ∀ i,i < n→IsF w9 (fl i):=fun i hi=>((hIsA i hi).kept hE8).kept hK9
 have hrowB:=(hrowA.kept hE8).kept hK9
 have hfbB: ∀ i,i < n→FB w9 (fl i):=fun i hi=>(show Rb w w9 from (Rb.of_kept hKA).trans ((Rb.of_kept hE8).trans (Rb.of_kept hK9))) _ (hfb i hi)
 refine gcd 61 [.fn 120 [.ptr ⟨mb,0,none⟩],.sl A n c] [286,214,360,311] w6.drew hW9 (fun hC=>?_)
 refine (c61 120 #[.pointer (some ⟨mb,0,none⟩)] A n c fl w9 (by kernel_rfl) hn1 hn (fun i hi w' hk=>by obtain ⟨_,_,_,h⟩:=hrowB.kept hk;exact h i hi) hfbB (fun i j hij hj w' hk=>?_)).mono ?_
 ·refine (c120 mb r i j n fl w' hij hj hinj (Sat.add0 343 _ ((hk.block mb (solid_of hmbA (by simp))).trans hmbA) hzmb) (hMA.kept hk) (fun i hi=>(hIsB i hi).kept hk)).mono ?_
  rintro e w'' ⟨rfl,hE⟩
  exact ⟨1,by omega,rfl,hE⟩
 rintro e w10 ⟨nb,_,rfl,_,hE10,_⟩
 have hs10:=hs9.kq hE10
 refine ⟨.tup [.agg [.ptr ⟨nb,0,none⟩,.fn 120 [.ptr ⟨mb,0,none⟩]],.agg (sliceS (.ptr ⟨nb,0,none⟩) n (.fn 120 [.ptr ⟨mb,0,none⟩]))],[],_,rfl,hs10,hC.trans (hE10.mono (by simp)),fun hW10=>?_⟩
 refine gr0 (bs:=[b7,vb]) 200 ⟨[286],2,[],[],1⟩ hW10 fun w11 hK11 hW11=>?_
 have hs11:=hW11.sq ([⟨149,filesL A n c⟩,⟨286,[.it .i32 0,.np,.ns,.it .i64 0,.it .u64 0,.it .u64 0,.it .u64 0,.np,.fn 92 [],.it .i64 1,.it .u64 0,.it .u64 0,.it .u64 0,.ptr ⟨nb,0,none⟩,.fn 120 [.ptr ⟨mb,0,none⟩],.it .i64 0,.it .u64 0,.it .u64 0,.it .u64 0,.np,.nf,.it .i64 0,.it .u64 0,.it .u64 0,.it .u64 0,.np,.nf,.it .i64 0,.it .u64 0,.it .u64 0,.it .u64 0,.np,.nf,.it .i64 0,.it .u64 0,.it .u64 0,.it .u64 0,.np,.nf,.it .i64 0,.it .u64 0,.it .u64 0,.it .u64 0,.np,.nf,.it .i64 0,.it .u64 0,.it .u64 0,.it .u64 0,.np,.nf,.it .i64 0,.it .u64 0,.it .u64 0,.it .u64 0,.np,.nf,.it .i64 0,.it .u64 0,.it .u64 0,.it .u64 0,.np,.nf,.it .i64 0,.it .u64 0,.it .u64 0,.it .u64 0,.np,.nf,.it .i64 0,.it .u64 0,.it .u64 0,.it .u64 0,.np,.nf,.it .i64 0,.it .u64 0,.it .u64 0,.it .u64 0,.np,.nf,.it .i64 0,.it .u64 0,.it .u64 0,.it .u64 0,.np,.nf,.nf,.it .i64 0,.np,.np,.np]⟩])
 refine gc 62 [.fn 65 []] hW11 ?_
 refine (c62 (fnv 65) rfl w11).mono ?_
 rintro e w12 ⟨gb1,rfl,_,_,hE12⟩
 have hs12:=hs11.kq hE12
 refine ⟨.fn 103 [.ptr ⟨gb1,0,none⟩],[],_,rfl,hs12,fun hW12=>?_⟩
 refine gr0 (bs:=[b7,vb]) 200 ⟨[286],2,[],[],0⟩ hW12 fun w13 hK13 hW13=>?_
 have hs13:=hW13.sq ([⟨149,filesL A n c⟩,⟨286,[.it .i32 0,.np,.ns,.it .i64 0,.it .u64 0,.it .u64 0,.it .u64 0,.np,.fn 92 [],.it .i64 1,.it .u64 0,.it .u64 0,.it .u64 0,.ptr ⟨nb,0,none⟩,.fn 103 [.ptr ⟨gb1,0,none⟩],.it .i64 0,.it .u64 0,.it .u64 0,.it .u64 0,.np,.nf,.it .i64 0,.it .u64 0,.it .u64 0,.it .u64 0,.np,.nf,.it .i64 0,.it .u64 0,.it .u64 0,.it .u64 0,.np,.nf,.it .i64 0,.it .u64 0,.it .u64 0,.it .u64 0,.np,.nf,.it .i64 0,.it .u64 0,.it .u64 0,.it .u64 0,.np,.nf,.it .i64 0,.it .u64 0,.it .u64 0,.it .u64 0,.np,.nf,.it .i64 0,.it .u64 0,.it .u64 0,.it .u64 0,.np,.nf,.it .i64 0,.it .u64 0,.it .u64 0,.it .u64 0,.np,.nf,.it .i64 0,.it .u64 0,.it .u64 0,.it .u64 0,.np,.nf,.it .i64 0,.it .u64 0,.it .u64 0,.it .u64 0,.np,.nf,.it .i64 0,.it .u64 0,.it .u64 0,.it .u64 0,.np,.nf,.it .i64 0,.it .u64 0,.it .u64 0,.it .u64 0,.np,.nf,.nf,.it .i64 0,.np,.np,.np]⟩])
 have hKL:Kept TS46 w w13:=(hK1.tr (hKd1.tr (hK2.tr (hE3.tr (hK4.tr (hE5.tr (hK6.tr (hKd6.tr (hK7.tr (hE8.tr (hK9.tr (hE10.tr (hK11.tr (hE12.tr hK13 (ts:=TS46)) (ts:=TS46)) (ts:=TS46)) (ts:=TS46)) (ts:=TS46)) (ts:=TS46)) (ts:=TS46)) (ts:=TS46)) (ts:=TS46)) (ts:=TS46)) (ts:=TS46)) (ts:=TS46)) (ts:=TS46)) (ts:=TS46))
 have hWL:Sat [b7,vb] (H46 A n c mb0 mb nb gb1 0) w13:=hs13.vals (by kernel_rfl)
 refine go_cut (Z46 60 [true,true,false,true,false]) 81 (keepL A n c (.it .i64 0)) (H46 A n c mb0 mb nb gb1 0) (by kernel_rfl) (by kernel_rfl) (by kernel_rfl) hW13 hWL (fun xsL hWS=>?_)
 refine go_loop (bs:=[b7,vb]) (J46 A n c mb0 mb nb gb1 b7 vb w) n (by kernel_rfl) hWS (fun xs=>T46 A n c 0 xs) (H46 A n c mb0 mb nb gb1 0) (by kernel_rfl) (by kernel_rfl) (fun xs=>⟨0,0,xs,by omega,by omega,rfl,rfl,rfl,hKL⟩) ?_ ?_
 ·rintro m bs' T H w' ⟨j,sz,xs,_,_,rfl,_⟩
  exact ⟨[],rfl⟩
 ·rintro m bs' T H w' ⟨j,sz,xs,hj,hm,rfl,rfl,rfl,hK'⟩ hW'
  clear hWS
  have hrow':=hrow.kept hK'
  by_cases hlt:j < n
  ·refine gr0 (bs:=[b7,vb]) 200 ⟨[],2,[],[(56,true)],0⟩ hW' (fun v1 hG1 hV1=>?_) [(decide ((j:Int) < n),true),(decide ((0:Int)≤j),true),(decide ((j:Int) < n),true)] ⟨by simpa using hlt,by simp,by simpa using hlt,trivial⟩
   refine go_load 79 (.tmp 57) (A.add ((j:Int).toNat*1)) (.ptr ⟨fl j,0,none⟩) (H46 A n c mb0 mb nb gb1 sz) (by kernel_rfl) (by kernel_rfl) (by kernel_rfl) hV1 (by kernel_rfl) ?_ (fun hV2=>?_)
   ·rw [Int.toNat_natCast,Nat.mul_one]
    obtain ⟨_,_,_,h⟩:=hrow'.kept hG1
    exact h j hlt
   refine gr0 (bs:=[b7,vb]) 200 ⟨[],2,[],[],0⟩ hV2 fun v3 hG3 hV3=>?_
   obtain ⟨fm,hfm⟩:=hIs j hlt
   have hX3:Kept TS46 w v3.drew:=hK'.tr (hG1.tr (hG3.drew) (ts:=TS46)) (ts:=TS46)
   have hfm3:=(hX3.block (fl j) (solid_of hfm (by simp))).trans hfm
   refine gd [] [] hV3 (fun hD=>?_)
   refine gr0 (bs:=[b7,vb]) 200 ⟨[286],2,[],[],0⟩ hD fun v4 hG4 hV4=>?_
   refine go_hload 8 33 (.tmp 66) [] v3.drew ⟨fl j,5,none⟩ (.it .u64 1) (H46 A n c mb0 mb nb gb1 sz) (by kernel_rfl) (by kernel_rfl) (by kernel_rfl) (by kernel_rfl) hV4 (by kernel_rfl) (fun w'' hC=>?_) (fun hV5=>?_)
   ·exact cell_of_heap ((hC.block (fl j) (solid_of hfm3 (by simp))).trans hfm3) rfl
   refine gr0 (bs:=[b7,vb]) 200 ⟨[286],2,[],[],0⟩ hV5 fun v6 hG6 hV6=>?_
   have ht6:=hV6.satD (H46 A n c mb0 mb nb gb1 (IntKind.u64.wrap (sz+1))) (by kernel_rfl)
   refine go_fin (Hand (J46 A n c mb0 mb nb gb1 b7 vb w) m) (by kernel_rfl) (fun xs=>T46 A n c (IntKind.i64.wrap ((j:Int)+1)) xs) (by kernel_rfl) (fun xs=>?_)
   rw [wrap_succ j (by omega)]
   have hKf:Kept TS46 w v6:=hX3.tr (hG4.tr hG6 (ts:=TS46)) (ts:=TS46)
   refine ⟨m - 1,by omega,[b7,vb],T46 A n c ((j+1:Nat):Int) xs,H46 A n c mb0 mb nb gb1 (IntKind.u64.wrap (sz+1)),?_,?_,?_⟩
   ·rfl
   ·exact ht6
   ·exact ⟨j+1,IntKind.u64.wrap (sz+1),xs,by omega,by omega,rfl,rfl,rfl,hKf⟩
  ·obtain rfl:n=j:=by omega
   refine gr0 (bs:=[b7,vb]) 200 ⟨[286],2,[],[(56,false)],1⟩ hW' (fun w100 hK100 hW100=>?_) [(decide ((n:Int) < n),false)] ⟨by simp,trivial⟩
   have hsH:Sat [b7,vb] (HCl (some ⟨.slice (some A) n c,rfl⟩) (fun i=>(SV.denL [b7,vb] ((H46 A n c mb0 mb nb gb1 sz).getD 1 ⟨0,[]⟩).cs).getD i .nilFunc)) w100:=hW100.sq _
   exact go_cut (ZL 2) 81 (keep46 ((2:Nat):Int)) _ (by kernel_rfl) (by kernel_rfl) (by kernel_rfl) hW100 hsH fun xs2 hcut=>lvls w b7 vb 2 (by decide) (by decide) _ _ xs2 w100 (fun h=>absurd h (by decide)) (hK'.tr hK100 (ts:=TS46)) hcut
end Go.Proofs.YtghppnklhbbffaaGreatDoor.X
