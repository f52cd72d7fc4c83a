/- Part 4 of the proof that laws.FnTreeLevel answers true, for arguments of small bulk. -/
import Derived.Test.YtghppnklhbbffaaGreatDoorR03
import Derived.Deep.LoopGhost
import Derived.LoopN
import Derived.Test.YtghppnklhbbffaaGreatDoorProg
import Derived.Test.YtghppnklhbbffaaGreatDoorR01
set_option linter.all false
namespace Go.Proofs.YtghppnklhbbffaaGreatDoor.X
open Go Go.RowKit Go.Proofs.YtghppnklhbbffaaGreatDoor.TL
structure Wk [Bd] (bs:List Nat) (s:ST) (w:World):Prop where
 sat:Sat bs s.H w
 pre:PreK bs s.K
theorem Wk.satE [Bd] {bs:List Nat} {s:ST} {w:World} (h:Wk bs s w) (H:List SB) (e:s.H=H):Sat bs H w:=e ▸ h.sat
theorem Wk.sz [Bd] {bs:List Nat} {s:ST} {w:World} (h:Wk bs s w):Bd.B≤w.heap.size:=h.sat.sz
theorem Wk.lo [Bd] {bs:List Nat} {s:ST} {w:World} (h:Wk bs s w): ∀ x∈bs,Bd.B≤x:=h.sat.lo
theorem Wk.num [Bd] {bs:List Nat} {s:ST} {w:World} (h:Wk bs s w) (n:Nat) (e:s.H.length=n):bs.length=n:=h.sat.len.trans e
section
variable {P:Program} {Q:Exit→Act→World→Prop} {bs:List Nat} {w:World}
def startS (fn:Func) (args:List SV) (H:List SB):ST:=⟨[.code (fn.body.getD .skip)],args++List.replicate (fn.ntmps - args.length) .un,H,[]⟩
theorem go_calls [Bd] {f:FuncId} {fn:Func} {R:Ending→World→Prop} (args:List SV) (H:List SB) (hf:P.funcs[f]? =some fn) (hb:fn.body.isSome=true) (hs:Sat bs H w)
  (h:Wk bs (startS fn args H) w→kx P (bodyPost P fn R) (startS fn args H).K .normal (actS bs (startS fn args H).T) w):Calls P f (SV.denL bs args).toArray w R:=by
 cases hc:fn.body with
 |none=>rw [hc] at hb;cases hb
 |some c=>
  refine calls_of_wp hf hc ?_
  have e:(⟨(SV.denL bs args).toArray++Array.replicate (fn.ntmps - (SV.denL bs args).toArray.size) undef,[]⟩:Act)=actS bs (args++List.replicate (fn.ntmps - args.length) .un):=by
   unfold actS
   congr 1
   apply Array.ext'
   simp [denL_map,SV.den]
  rw [e]
  have:=h ⟨hs,trivial⟩
  simp only [startS,hc,Option.getD_some] at this
  exact this
theorem go_run [Bd] (n:Nat) (cf:Cfg) {s:ST} (hm:P.follows .mixedOrders=true) (hs:Wk bs s w) (hn:cf.n0=bs.length) (ob:List (Bool×Bool)) (ho:(runS P cf n s).ob=ob) (he:AllEq ob)
  (hk: ∀ nw w',(∀ b∈nw,w.heap.size≤b)→Kept cf.ts w w'→Wk (bs++nw) (runS P cf n s) w'→kx P Q (runS P cf n s).K .normal (actS (bs++nw) (runS P cf n s).T) w'):kx P Q s.K .normal (actS bs s.T) w:=
 runS_sound hm hn n s bs w (ho ▸ he) (At.refl hs.sat) hs.pre (fun nw w' hat hp=>hk nw w' (by
  obtain ⟨nw2,e,hb⟩:=hat.pre
  obtain rfl:=List.append_cancel_left e
  exact hb) hat.kept ⟨hat.sat,hp⟩)
structure Fr [Bd] (ts:List TypeId) (w0:World) (bs0 bs:List Nat) (w:World):Prop where
 pre: ∃ nw,bs=bs0++nw∧ ∀ b∈nw,w0.heap.size≤b
 kept:Kept ts w0 w
 far:4000000∈ts→ ∀ k,k < w0.heap.size→k∉bs0→w.heap[k]? =w0.heap[k]?
theorem Fr.refl [Bd] (ts:List TypeId) (w:World) (bs:List Nat):Fr ts w bs bs w:=⟨⟨[],by simp,by simp⟩,Kept.refl _ _,fun _ _ _ _=>rfl⟩
def Far (ns:List Nat) (w w':World):Prop:= ∀ k,k < w.heap.size→k∉ns→w'.heap[k]? =w.heap[k]?
theorem Fr.farE [Bd] {ts:List TypeId} {w0 w:World} {bs0 bs:List Nat} (h:Fr ts w0 bs0 bs w) (hm:4000000∈ts:=by simp):Far bs0 w0 w:=h.far hm
theorem Far.of_ext [Bd] {w w':World} (h:Ext w w') (ns:List Nat):Far ns w w':=fun k hk _=>h.block k (solid_nil hk)
theorem Far.ext [Bd] {ts:List TypeId} {w w':World} (h:Far [] w w') (hk:Kept ts w w'):Ext w w':=⟨hk.os,hk.tape,hk.output,hk.size,fun k hs=>h k hs.lt (by simp),hk.ty⟩
theorem Fr.callF [Bd] {ts us:List TypeId} {ns:List Nat} {w0 w w':World} {bs0 bs nw:List Nat} (h:Fr ts w0 bs0 bs w) (hk:Kept us w w') (hf:Far ns w w') (hns: ∀ b∈ns,b∈bs:=by simp) (hus: ∀ t∈us,t∈ts:=by simp) (hnw: ∀ b∈nw,w.heap.size≤b:=by simp):Fr ts w0 bs0 (bs++nw) w':=by
 obtain ⟨n0,e,hb⟩:=h.pre
 refine ⟨⟨n0++nw,by rw [e,List.append_assoc],fun b hb'=>?_⟩,h.kept.trans (hk.mono hus),fun hm k hlt hn=>(hf k (Nat.lt_of_lt_of_le hlt h.kept.size) (fun hm'=>?_)).trans (h.far hm k hlt hn)⟩
 ·rcases List.mem_append.1 hb' with h1|h1
  ·exact hb b h1
  ·exact Nat.le_trans h.kept.size (hnw b h1)
 ·have:=hns k hm'
  rw [e] at this
  rcases List.mem_append.1 this with h1|h1
  ·exact hn h1
  ·have:=hb k h1;omega
theorem Fr.call [Bd] {ts us:List TypeId} {w0 w w':World} {bs0 bs nw:List Nat} (h:Fr ts w0 bs0 bs w) (hk:Kept us w w') (hus: ∀ t∈us,t∈ts:=by simp) (hnw: ∀ b∈nw,w.heap.size≤b:=by simp) (hfm:us=[]∨4000000∉ts:=by simp):Fr ts w0 bs0 (bs++nw) w':=by
 refine ⟨?_,h.kept.trans (hk.mono hus),fun hm k hlt hn=>?_⟩
 rotate_left
 ·rcases hfm with rfl|hfm
  ·exact (hk.block k (solid_nil (Nat.lt_of_lt_of_le hlt h.kept.size))).trans (h.far hm k hlt hn)
  ·exact absurd hm hfm
 obtain ⟨n0,e,hb⟩:=h.pre
 exact ⟨n0++nw,by rw [e,List.append_assoc],fun b hb'=>by
  rcases List.mem_append.1 hb' with h1|h1
  ·exact hb b h1
  ·exact Nat.le_trans h.kept.size (hnw b h1)⟩
theorem Fr.mono [Bd] {ts us:List TypeId} {w0 w:World} {bs0 bs:List Nat} (h:Fr ts w0 bs0 bs w) (hus: ∀ t∈ts,t∈us:=by simp) (hfm:4000000∈us→4000000∈ts:=by simp):Fr us w0 bs0 bs w:=⟨h.pre,h.kept.mono hus,fun hm=>h.far (hfm hm)⟩
theorem Fr.drop [Bd] {ts:List TypeId} {w0 w:World} {bs bs':List Nat} (h:Fr ts w0 [] bs w) (hs: ∀ b∈bs',b∈bs:=by simp):Fr ts w0 [] bs' w:=by
 obtain ⟨nw,e,hb⟩:=h.pre
 rw [List.nil_append] at e
 subst e
 exact ⟨⟨bs',by simp,fun b hb'=>hb b (hs b hb')⟩,h.kept,h.far⟩
theorem Fr.drew [Bd] {ts:List TypeId} {w0 w:World} {bs0 bs:List Nat} (h:Fr ts w0 bs0 bs w):Fr ts w0 bs0 bs w.drew:=⟨h.pre,h.kept.drew,h.far⟩
theorem Fr.lo [Bd] {ts:List TypeId} {w0 w:World} {bs0 nw:List Nat} (h:Fr ts w0 bs0 (bs0++nw) w): ∀ b∈nw,w0.heap.size≤b:=by
 obtain ⟨n,e,hb⟩:=h.pre
 obtain rfl:=List.append_cancel_left e
 exact hb
theorem go_runA [Bd] (n:Nat) (cf:Cfg) {s:ST} {w0:World} {bs0:List Nat} (hm:P.follows .mixedOrders=true) (hs:Wk bs s w) (hf:Fr cf.ts w0 bs0 bs w) (hn:cf.n0=bs0.length) (ob:List (Bool×Bool)) (ho:(runS P cf n s).ob=ob) (he:AllEq ob)
  (hk: ∀ nw w',Fr cf.ts w0 bs0 (bs++nw) w'→Wk (bs++nw) (runS P cf n s) w'→kx P Q (runS P cf n s).K .normal (actS (bs++nw) (runS P cf n s).T) w'):kx P Q s.K .normal (actS bs s.T) w:=
 runS_sound hm hn n s bs w (ho ▸ he) ⟨hf.pre,hf.kept,hs.sat,hf.far⟩ hs.pre (fun nw w' hat hp=>hk nw w' ⟨hat.pre,hat.kept,hat.far⟩ ⟨hat.sat,hp⟩)
def methodS (P:Program) (t:TypeId) (name:String):Option FuncId:=match P.info? t with
 |some i=>match i.methods.find? (·.name==name) with
  |some m=>match m.path.toList,m.func with
   |[],some (f,true)=>match P.underlying t with
    |some (.pointer _)=>some f
    |_=>none
   |_,_=>none
  |none=>none
 |none=>none
def bodyB (P:Program) (f:FuncId):Bool:=match P.funcs[f]? with
 | some fn => !(fn.name == "runtime.NumGoroutine") && fn.body.isSome
 |none=>false
def callS (P:Program) (T:List SV):Op→Option (FuncId×List SV)
 | .call c=>match c.callee with
   | .value g=>match evS T g with
     | .fn f cap=>if bodyB P f then some (f,c.args.toList.map (evS T)++cap) else none
     |_=>none
   | .invoke r name=>match evS T r with
     | .ifc t x=>match methodS P t name with
       |some f=>if bodyB P f then some (f,x::c.args.toList.map (evS T)) else none
       |none=>none
     |_=>none
   |_=>none
 |_=>none
theorem bodyB_run [Bd] {f:FuncId} (h:bodyB P f=true) (args:Array Value):(callFunc f args).run P w=.ok (.enter f args) w:=by
 unfold bodyB at h
 split at h
 ·rename_i fn hf
  simp only [Bool.and_eq_true,Bool.not_eq_true'] at h
  obtain ⟨h1,h2⟩:=h
  cases hb:fn.body with
  |none=>rw [hb] at h2;cases h2
  |some c=>
   have h1' : ¬ fn.name = "runtime.NumGoroutine" := by simpa using h1
   simp [callFunc,hf,h1',hb,Result.andThen]
 ·cases h
theorem methodS_run [Bd] {t:TypeId} {name:String} {f:FuncId} (h:methodS P t name=some f) (v:Value) (k:Nat):(method (k+1) t v name).run P w=.ok (f,v) w:=by
 unfold methodS at h
 split at h
 ·rename_i i hi
  split at h
  ·rename_i m hm
   split at h
   ·rename_i g hp hg
    split at h
    ·rename_i e hu
     simp only [Option.some.injEq] at h
     subst h
     unfold method
     have hti:(typeInfo t).run P w=.ok i w:=by simp [typeInfo,hi,Result.andThen]
     simp only [Sem.run_bind,hti,Result.andThen,hm,hp,follow,Sem.run_pure,hg,receiverAt,run_underlying hu,Place.get]
    ·cases h
   ·cases h
  ·cases h
 ·cases h
theorem callS_run [Bd] {T:List SV} {o:Oper} {f:FuncId} {args:List SV} (h:callS P T o.op=some (f,args)):(execOp (actS bs T).eval o).run P w=.ok (.enter f (SV.denL bs args).toArray) w:=by
 have hρ:(actS bs T).eval=fun x=>(evS T x).den bs:=funext (ev_den bs T)
 rw [hρ]
 obtain ⟨dst,op,ty,pos,after,guard⟩:=o
 cases op<;>simp only [callS] at h<;>try (cases h;done)
 case call c=>
  have ha:(c.args.map fun x=>(evS T x).den bs)=(SV.denL bs (c.args.toList.map (evS T))).toArray:=by
   apply Array.ext'
   simp [denL_map,Function.comp_def]
  split at h
  ·rename_i g hc
   split at h
   ·rename_i f' cap hg
    split at h
    ·rename_i hb
     simp only [Option.some.injEq,Prod.mk.injEq] at h
     obtain ⟨rfl,rfl⟩:=h
     simp only [execOp,resolve,hc,hg,SV.den,Deferred.ofValue,Sem.run_bind,Sem.run_pure,Result.andThen,invoke]
     rw [ha,bodyB_run hb]
     congr 2
     apply Array.ext'
     simp [denL_map]
    ·cases h
   ·cases h
  ·rename_i r name hc
   split at h
   ·rename_i t x hr
    split at h
    ·rename_i f' hm
     split at h
     ·rename_i hb
      simp only [Option.some.injEq,Prod.mk.injEq] at h
      obtain ⟨rfl,rfl⟩:=h
      simp only [execOp,resolve,hc,hr,SV.den,Sem.run_bind,Sem.run_pure,Result.andThen,invoke]
      have e0:(#[Value.iface t (x.den bs)]++Array.map (fun x=>(evS T x).den bs) c.args)[0]? =some (.iface t (x.den bs)):=by rw [Array.getElem?_append_left (by simp)];rfl
      have e1:(#[Value.iface t (x.den bs)]++Array.map (fun x=>(evS T x).den bs) c.args).extract 1 (#[Value.iface t (x.den bs)]++Array.map (fun x=>(evS T x).den bs) c.args).size=Array.map (fun x=>(evS T x).den bs) c.args:=by
       apply Array.ext'
       simp [Array.toList_extract,List.extract_eq_take_drop,List.take_of_length_le]
      simp only [e0,e1,callMethod,Sem.run_bind,run_program,Result.andThen]
      rw [show P.types.size+Made.depth=(P.types.size+(Made.depth - 1))+1 by simp [Made.depth]]
      simp only [methodS_run hm,Result.andThen]
      rw [bodyB_run hb,ha]
      congr 2
      apply Array.ext'
      simp [SV.denL]
     ·cases h
    ·cases h
   ·cases h
  ·cases h
def callF (P:Program) (s:ST):Option (FuncId×List SV):=match s.K with
 | .ops all (o::_)::_=>match wantS s.T all o with
   |some true=>if SV.ltL s.H.length s.T then callS P s.T o.op else none
   |_=>none
 |_=>none
def callD (P:Program) (s:ST):Option (FuncId×List SV×List TypeId):=match s.K with
 | .dr ops _ us _ _ _ false (_+1) listed::_=>match soleI ops listed with
   |some i=>match ops[i]? with
    |some o=>match wantS s.T ops o with
     |some true=>if SV.ltL s.H.length s.T then (match callS P s.T o.op with|some (f,args)=>some (f,args,us)|none=>none) else none
     |_=>none
    |none=>none
   |none=>none
 |_=>none
def drW (s:ST):Option World:=match s.K with
 | .dr _ _ _ _ _ wr _ _ _::_=>some wr
 |_=>none
def afterC (s:ST) (x:SV) (H:List SB):ST:=match s.K with
 | .ops all (o::r)::k=>⟨.ops all r::k,setT s.T o.dst x,H,[]⟩
 | .dr ops Ls us Hr bsr wr fz (f+1) listed::k=>match soleI ops listed with
   |some i=>match ops[i]? with
    |some o=>⟨.dr ops Ls us Hr bsr wr fz f (listed.setIfInBounds i true)::k,setT s.T o.dst x,H,[]⟩
    |none=>s
   |none=>s
 |_=>s
theorem afterC_pre [Bd] {s:ST} {x:SV} {H:List SB} {nw:List Nat} (h:PreK bs s.K):PreK (bs++nw) (afterC s x H).K:=by
 obtain ⟨K,T,H0,ob⟩:=s
 unfold afterC
 simp only at h ⊢
 split
 ·exact PreK_app (k:=_::_) h
 ·split
  ·split
   ·exact PreK_app (k:=.dr _ _ _ _ _ _ _ _ _::_) h
   ·exact PreK_app h
  ·exact PreK_app h
 ·exact PreK_app h
theorem go_call [Bd] {s:ST} (f:FuncId) (args:List SV) (h:callF P s=some (f,args)) (hs:Wk bs s w)
  (hc:Calls P f (SV.denL bs args).toArray w fun e w'=> ∃ (x:SV) (nw:List Nat) (H:List SB),e=.returned (x.den (bs++nw))∧Sat (bs++nw) H w'∧(Wk (bs++nw) (afterC s x H) w'→kx P Q (afterC s x H).K .normal (actS (bs++nw) (afterC s x H).T) w')):
  kx P Q s.K .normal (actS bs s.T) w:=by
 have hap: ∀ (x:SV) (H:List SB) (nw:List Nat),PreK (bs++nw) (afterC s x H).K:=fun x H nw=>afterC_pre hs.pre
 have hl:=hs.sat.len
 clear hs
 obtain ⟨K,T,H,ob⟩:=s
 unfold callF at h
 simp only at h hl ⊢
 split at h
 ·rename_i all o r k
  split at h
  ·rename_i hw
   split at h
   ·rename_i hT
    simp only [kx]
    unfold wpList
    rw [if_pos (by rw [wantS_run hw])]
    left
    unfold Oper.wp
    rw [callS_run h]
    simp only [Oper.upon]
    refine hc.mono fun e w'=>?_
    rintro ⟨x,nw,H',rfl,hsat,hk⟩
    replace hk:=hk ⟨by simpa [afterC] using hsat,hap x H' nw⟩
    simp only
    have hact:actS bs T=actS (bs++nw) T:=by unfold actS;rw [denL_app T (by rw [hl];exact hT)]
    rw [hact,put_setT]
    exact hk
   ·cases h
  ·cases h
 ·cases h
theorem go_callD [Bd] {s:ST} (f:FuncId) (args:List SV) (us:List TypeId) (wr:World) (h:callD P s=some (f,args,us)) (hwr:drW s=some wr) (hs:Wk bs s w)
  (hc:Kept us wr w→Calls P f (SV.denL bs args).toArray w fun e w'=> ∃ (x:SV) (nw:List Nat) (H:List SB),e=.returned (x.den (bs++nw))∧Sat (bs++nw) H w'∧Kept us wr w'∧(Wk (bs++nw) (afterC s x H) w'→kx P Q (afterC s x H).K .normal (actS (bs++nw) (afterC s x H).T) w')):
  kx P Q s.K .normal (actS bs s.T) w:=by
 have hap: ∀ (x:SV) (H:List SB) (nw:List Nat),PreK (bs++nw) (afterC s x H).K:=fun x H nw=>afterC_pre hs.pre
 have hl:=hs.sat.len
 clear hs
 obtain ⟨K,T,H,ob⟩:=s
 unfold callD at h
 unfold drW at hwr
 simp only at h hl hwr ⊢
 split at h
 ·rename_i ops Ls us' Hr bsr wr' f' listed k
  simp only [Option.some.injEq] at hwr
  subst hwr
  split at h
  ·rename_i i hi
   split at h
   ·rename_i o ho
    split at h
    ·rename_i hw
     split at h
     ·rename_i hT
      split at h
      ·rename_i f2 args2 hcall
       simp only [Option.some.injEq,Prod.mk.injEq] at h
       obtain ⟨rfl,rfl,rfl⟩:=h
       simp only [kx]
       intro hsat hC
       refine ⟨fun hh=>(by rw [soleI_of hi] at hh;cases hh),fun j hj=>?_⟩
       rw [soleI_of hi] at hj
       obtain rfl:j=i:=by simpa using hj
       unfold okOp
       simp only [ho]
       rw [if_pos (by rw [wantS_run hw])]
       unfold Oper.wp
       rw [callS_run hcall]
       simp only [Oper.upon]
       refine (hc (hC (by trivial))).mono fun e w'=>?_
       rintro ⟨x,nw,H',rfl,hsat',hside,hk⟩
       replace hk:=hk ⟨by simpa [afterC,hi,ho] using hsat',hap x H' nw⟩
       simp only [afterC,hi,ho] at hk ⊢
       have hact:actS bs T=actS (bs++nw) T:=by unfold actS;rw [denL_app T (by rw [hl];exact hT)]
       rw [hact,put_setT]
       exact ⟨.inr hside,hk hsat (fun _=>hside)⟩
      ·cases h
     ·cases h
    ·cases h
   ·cases h
  ·cases h
 ·cases h
def drawB (s:ST):Bool:=match s.K with
 | .code (.region _ _ true)::_=>true
 |_=>false
def enterD (us:List TypeId) (ex:List Nat) (bs:List Nat) (w:World) (s:ST):ST:=match s.K with
 | .code (.region _ ops _)::k=>⟨.dr ops (lfOf ops::ex) us s.H bs w false ops.size (Array.replicate ops.size false)::k,s.T,s.H,[]⟩
 |_=>s
theorem go_draw [Bd] {s:ST} (us:List TypeId) (ex:List Nat) (hm:P.follows .mixedOrders=true) (h:drawB s=true) (hs:Wk bs s w)
  (hk:Wk bs (enterD us ex bs w.drew s) w.drew→kx P Q (enterD us ex bs w.drew s).K .normal (actS bs (enterD us ex bs w.drew s).T) w.drew):kx P Q s.K .normal (actS bs s.T) w:=by
 obtain ⟨K,T,H,ob⟩:=s
 unfold drawB at h
 simp only at h hs ⊢
 split at h
 ·rename_i id ops k
  simp only [kx]
  refine wp_region_draw (lfOf ops::ex) (Kept us w.drew) hm ?_
  simp only [enterD] at hk
  have:=hk ⟨hs.sat.drew,⟨⟨⟨[],by simp⟩,hs.sat.drew⟩,hs.pre⟩⟩
  exact this hs.sat.drew (fun _=>Kept.refl _ _)
 ·cases h
def thenS (s:ST):ST:=match s.K with
 | .code (.cond _ t _)::k=>⟨.code t::k,s.T,s.H,[]⟩
 |_=>s
def elseS (s:ST):ST:=match s.K with
 | .code (.cond _ _ e)::k=>⟨.code e::k,s.T,s.H,[]⟩
 |_=>s
theorem kx_ret [Bd]: ∀ (k:List KI),kx P Q k .ret=Q .ret
 |[]=>rfl
 |i::k=>by rw [←kx_ret k];cases i<;>rfl
def resL (P:Program) (T:List SV) (L:Look):List ResultVar→Option (List SV)
 |[]=>some []
 | .tmp t::r=>match resL P T L r with
   |some l=>some (T.getD t .un::l)
   |none=>none
 | .cell a t::r=>match T.getD a .un with
   | .p b o=>match loadS P L t b o,resL P T L r with
     |some x,some l=>some (x::l)
     |_,_=>none
   |_=>none
def resS (P:Program) (fn:Func) (s:ST):Option SV:=match resL P s.T (lookH [] s.H) fn.results.toList with
 |some [x]=>some x
 |some l=>some (.tup l)
 |none=>none
def retB (s:ST):Bool:=match s.K with
 |[]=>true
 | .code .ret::_=>true
 |_=>false
def resM (tm:Array Value):ResultVar→Sem Value
 | .tmp t=>pure (tm.getD t undef)
 | .cell a t=>do loadVar t (←asAddr (tm.getD a undef))
theorem resL_run [Bd] {T:List SV} {L:Look} (hL:Sees bs L w): ∀ (rs:List ResultVar) (l:List SV),resL P T L rs=some l→
  (rs.mapM (resM (actS bs T).tmps)).run P w=.ok (SV.denL bs l) w
 |[],l,h=>by simp only [resL,Option.some.injEq] at h;subst h;rfl
 | .tmp t::r,l,h=>by
   simp only [resL] at h
   split at h
   ·rename_i l' hl
    simp only [Option.some.injEq] at h
    subst h
    have:=ev_den bs T (.tmp t)
    simp only [Act.eval,evS] at this
    have h0:(resM (actS bs T).tmps (.tmp t)).run P w=.ok ((T.getD t .un).den bs) w:=by simp only [resM,this];rfl
    simp only [List.mapM_cons,Sem.run_bind,h0,Result.andThen,resL_run hL r l' hl,SV.denL,Sem.run_pure]
   ·cases h
 | .cell a t::r,l,h=>by
   simp only [resL] at h
   split at h
   ·rename_i b o hT
    split at h
    ·rename_i x l' hx hl
     simp only [Option.some.injEq] at h
     subst h
     have:=ev_den bs T (.tmp a)
     simp only [Act.eval,evS,hT,SV.den] at this
     have h0:(resM (actS bs T).tmps (.cell a t)).run P w=.ok (x.den bs) w:=by simp only [resM,this,asAddr,Sem.run_bind,Sem.run_pure,Result.andThen,loadS_run hL hx]
     simp only [List.mapM_cons,Sem.run_bind,h0,Result.andThen,resL_run hL r l' hl,SV.denL,Sem.run_pure]
    ·cases h
   ·cases h
theorem go_ret [Bd] {fn:Func} {R:Ending→World→Prop} {s:ST} (r:SV) (h:resS P fn s=some r) (hb:retB s=true) (hs:Sat bs s.H w) (hR:R (.returned (r.den bs)) w):kx P (bodyPost P fn R) s.K .normal (actS bs s.T) w:=by
 obtain ⟨K,T,H,ob⟩:=s
 have key:(results fn (actS bs T).tmps).run P w=.ok (r.den bs) w:=by
  unfold resS at h
  simp only at h
  have hres: ∀ l,resL P T (lookH [] H) fn.results.toList=some l→(results fn (actS bs T).tmps).run P w=.ok (if h:(SV.denL bs l).toArray.size=1 then (SV.denL bs l).toArray[0] else .tuple (SV.denL bs l).toArray) w:=fun l hl=>by
   have:=resL_run hs.sees _ _ hl
   have e:results fn (actS bs T).tmps=(do let vs ←fn.results.mapM (resM (actS bs T).tmps);pure (if h:vs.size=1 then vs[0] else .tuple vs)):=by
    unfold results
    congr 2
   rw [e]
   simp only [Array.mapM_eq_mapM_toList,Sem.run_bind,Sem.run_map,this,Result.andThen,Sem.run_pure]
  split at h
  ·rename_i x hx
   simp only [Option.some.injEq] at h
   subst h
   rw [hres _ hx];first|done|rfl
  ·rename_i l hne hl
   simp only [Option.some.injEq] at h
   subst h
   have hne1: ¬ (SV.denL bs l).toArray.size=1:=by
    simp only [List.size_toArray,denL_length]
    intro h1
    obtain ⟨x,rfl⟩:=List.length_eq_one_iff.1 h1
    exact hne x rfl
   rw [hres _ hl,dif_neg hne1,SV.den]
  ·cases h
 unfold retB at hb
 simp only at hb ⊢
 split at hb
 ·exact ⟨rfl,_,key,hR⟩
 ·rename_i k
  simp only [kx]
  refine wp_ret ?_
  rw [kx_ret]
  exact ⟨rfl,_,key,hR⟩
 ·cases hb
end
attribute [irreducible] startS enterD thenS elseS resS
end Go.Proofs.YtghppnklhbbffaaGreatDoor.X
namespace Go.Proofs.YtghppnklhbbffaaGreatDoor.TL
open Go Go.RowKit
theorem run_compare [Bd] {P:Program} {w:World} {v1 v2:Value} {s1 s2:List UInt8} (h1:RdS w v1 s1) (h2:RdS w v2 s2):
  (Extern.BytealgCompare.compare #[v1,v2]).run P w=.ok (.int .i64 (Lib.compareBytes s1 s2)) w:=by
 change Sem.run P (do pure (goInt (Extern.BytealgCompare.cmp (←Extern.Bytes.bytesOf v1) (←Extern.Bytes.bytesOf v2)))) w=_
 simp only [Sem.run_bind,run_bytesOf h1,run_bytesOf h2,Sem.run_pure,Result.andThen]
 rw [Lib.cmp_eq];rfl
theorem run108 [Bd] {w:World} {v1 v2:Value} {s1 s2:List UInt8} (h1:RdS w v1 s1) (h2:RdS w v2 s2):
  (callFunc 108 #[v1,v2]).run Tryz.prog w=.ok (.value (.int .i64 (Lib.compareBytes s1 s2))) w:=by
 rw [run_callFunc_extern Tryz.func108 (by kernel_rfl) (by kernel_rfl) (by kernel_rfl) (e:=Extern.BytealgCompare.compare) (by kernel_rfl),run_compare h1 h2]
 rfl
theorem compare_any [Bd] (v1 v2:Value) (s1 s2:List UInt8) (w:World) (h1:RdS w v1 s1) (h2:RdS w v2 s2):
  Calls Tryz.prog 65 #[v1,v2] w fun e w'=>e=.returned (.int .i64 (Lib.compareBytes s1 s2))∧w=w':=by
 have h:=run108 h1 h2
 clear h1 h2
 go_enter Tryz.func65,Tryz.ntmps65
 go_wp2
 go_ret
 exact ⟨rfl,rfl⟩
end Go.Proofs.YtghppnklhbbffaaGreatDoor.TL
namespace Go.Proofs.YtghppnklhbbffaaGreatDoor.X
open Go Go.RowKit Go.Proofs.YtghppnklhbbffaaGreatDoor.TL
def vals (bs:List Nat) (H:List SB):List (TypeId×List Value):=H.map fun o=>(o.ty,SV.denL bs o.cs)
theorem Sat.vals [Bd] {bs:List Nat} {H H':List SB} {w:World} (h:Sat bs H w) (e:vals bs H=vals bs H'):Sat bs H' w:=by
 have hl:H.length=H'.length:=by have:=congrArg List.length e;simpa [X.vals] using this
 refine ⟨by rw [h.len,hl],h.inj,fun b ob' ho'=>?_,h.lo,h.sz⟩
 have hb:=(List.getElem?_eq_some_iff.1 ho').1
 have ho:H[b]? =some (H[b]'(by omega)):=by simp
 have e1:=congrArg (·[b]?) e
 simp only [X.vals,List.getElem?_map,ho,ho',Option.map_some,Option.some.injEq,Prod.mk.injEq] at e1
 have:=h.mem b _ ho
 rw [e1.1,e1.2] at this
 exact this
theorem Wk.satD [Bd] {bs:List Nat} {s:ST} {w:World} (h:Wk bs s w) (H:List SB) (e:vals bs s.H=vals bs H):Sat bs H w:=h.sat.vals e
theorem sat0 [Bd] (w:World) (hB0:autoParam (Bd.B≤w.heap.size) sz0._auto_1):Sat [] [] w:=⟨rfl,fun b _ h=>by simp at h,fun b ob h=>by simp at h,by simp,hB0⟩
theorem Sat.add [Bd] {bs:List Nat} {H:List SB} {w:World} (h:Sat bs H w) (hw:wfH H.length H=true) {b:Nat} (hb: ∀ x∈bs,x≠b) (ty:TypeId) (cs:List SV) (hg:w.heap[b]? =some (.cells (SV.denL (bs++[b]) cs).toArray ty (0,0))) (hB:autoParam (Bd.B≤b) bd0._auto_1):
  Sat (bs++[b]) (H++[⟨ty,cs⟩]) w:=by
 have hnew:nmB (bs++[b]) bs.length=b:=by simp [nmB]
 have hold: ∀ i,i < bs.length→nmB bs i∈bs:=fun i hi=>by
  have:nmB bs i=bs[i]:=by simp [nmB,List.getD_eq_getElem?_getD,hi]
  rw [this];exact List.getElem_mem _
 refine ⟨by simp [h.len],fun i j hi hj he=>?_,fun i ob ho=>?_,fun x hx=>?_,h.sz⟩
 rotate_left 2
 ·rcases List.mem_append.1 hx with hx|hx
  ·exact h.lo x hx
  ·simp only [List.mem_singleton] at hx;subst hx;exact hB
 ·simp only [List.length_append,List.length_cons,List.length_nil] at hi hj
  by_cases h1:i < bs.length
  ·by_cases h2:j < bs.length
   ·rw [getD_app h1,getD_app h2] at he;exact h.inj i j h1 h2 he
   ·have e:j=bs.length:=by omega
    subst e
    rw [getD_app h1,hnew] at he
    exact absurd he (hb _ (hold i h1))
  ·have e:i=bs.length:=by omega
   subst e
   by_cases h2:j < bs.length
   ·rw [getD_app h2,hnew] at he
    exact absurd he.symm (hb _ (hold j h2))
   ·omega
 ·by_cases h1:i < H.length
  ·rw [List.getElem?_append_left h1] at ho
   rw [getD_app (by rw [h.len];exact h1),denL_app ob.cs (by rw [h.len];exact wfH_get hw ho)]
   exact h.mem i ob ho
  ·have e:i=H.length:=by
    have:=(List.getElem?_eq_some_iff.1 ho).1
    simp at this;omega
   subst e
   rw [List.getElem?_append_right (Nat.le_refl _)] at ho
   simp only [Nat.sub_self,List.getElem?_cons_zero,Option.some.injEq] at ho
   subst ho
   rw [show H.length=bs.length from h.len.symm,hnew]
   exact hg
theorem Sat.add0 [Bd] {w:World} {b:Nat} (ty:TypeId) (cs:List SV) (hg:w.heap[b]? =some (.cells (SV.denL [b] cs).toArray ty (0,0))) (hB:autoParam (Bd.B≤b) bd0._auto_1):Sat [b] [⟨ty,cs⟩] w:=
 (sat0 w (Nat.le_trans hB (Nat.le_of_lt (Array.getElem?_eq_some_iff.1 hg).1))).add rfl (by simp) ty cs hg hB
theorem Sat.old_lt [Bd] {bs:List Nat} {H:List SB} {w:World} (h:Sat bs H w): ∀ x∈bs,x < w.heap.size:=fun x hx=>by
 obtain ⟨i,hi,rfl⟩:=List.getElem_of_mem hx
 obtain ⟨ob,ho⟩:=h.lt hi
 have:=h.mem i ob ho
 have e:nmB bs i=bs[i]:=by simp [nmB,List.getD_eq_getElem?_getD,hi]
 rw [e] at this
 exact (Array.getElem?_eq_some_iff.1 this).1
def outH (us:List TypeId):List SB→Bool
 |[]=>true
 |o::r=>!us.contains o.ty&&outH us r
theorem outH_get [Bd] {us:List TypeId}: ∀ {H:List SB} {i:Nat} {ob:SB},outH us H=true→H[i]? =some ob→ob.ty∉us
 |[],_,_,_,h=>by simp at h
 |o::r,i,ob,hw,h=>by
  simp only [outH,Bool.and_eq_true] at hw
  cases i with
  |zero=>simp only [List.getElem?_cons_zero,Option.some.injEq] at h;subst h;simpa using hw.1
  |succ i=>exact outH_get hw.2 (by simpa using h)
theorem Sat.keep [Bd] {bs:List Nat} {H:List SB} {w w':World} {us:List TypeId} (h:Sat bs H w) (hk:Kept us w w') (ho:outH us H=true):Sat bs H w':=
 ⟨h.len,h.inj,fun i ob hi=>by
  have hm:=h.mem i ob hi
  rw [hk.block _ (solid_of hm (outH_get ho hi))];exact hm,h.lo,Nat.le_trans h.sz hk.size⟩
theorem Sat.keep1 [Bd] {bs:List Nat} {H:List SB} {w w':World} {us:List TypeId} (h:Sat bs H w) (hk:Kept us w w') (i:Nat) (ty:TypeId) (cs:List SV) (ho:outH us (H.set i ⟨0,[]⟩)=true∨outH us (H.eraseIdx i)=true)
  (hi:(H[i]?).map (·.ty)=some ty) (hg:w'.heap[nmB bs i]? =some (.cells (SV.denL bs cs).toArray ty (0,0))):Sat bs (H.set i ⟨ty,cs⟩) w':=by
 refine ⟨by simp [h.len],h.inj,fun j ob hj=>?_,h.lo,Nat.le_trans h.sz hk.size⟩
 rw [List.getElem?_set] at hj
 split at hj
 ·rename_i e
  subst e
  split at hj
  ·simp only [Option.some.injEq] at hj;subst hj;exact hg
  ·cases hj
 ·rename_i e
  have hm:=h.mem j ob hj
  have hn:ob.ty∉us:=by
   rcases ho with ho|ho
   ·exact outH_get ho (i:=j) (by rw [List.getElem?_set,if_neg e];exact hj)
   ·by_cases hlt:j < i
    ·exact outH_get ho (i:=j) (by rw [List.getElem?_eraseIdx,if_pos hlt];exact hj)
    ·exact outH_get ho (i:=j - 1) (by rw [List.getElem?_eraseIdx,if_neg (by omega),show j - 1+1=j by omega];exact hj)
  rw [hk.block _ (solid_of hm hn)];exact hm
section
variable {P:Program} {Q:Exit→Act→World→Prop} {bs:List Nat} {w:World}
def curOp (s:ST):Option Op:=match s.K with
 | .ops all (o::_)::_=>match wantS s.T all o with
   |some true=>if SV.ltL s.H.length s.T then some o.op else none
   |_=>none
 |_=>none
def curD (s:ST):Option (Op×List TypeId):=match s.K with
 | .dr ops _ us _ _ _ false (_+1) listed::_=>match soleI ops listed with
   |some i=>match ops[i]? with
    |some o=>match wantS s.T ops o with
     |some true=>if SV.ltL s.H.length s.T then some (o.op,us) else none
     |_=>none
    |none=>none
   |none=>none
 |_=>none
theorem put_op [Bd] {op:Op} {T:List SV} {n0:Nat} (hl:bs.length=n0) (hT:SV.ltL n0 T=true) {x:SV} {nw:List Nat} {n:Next} {w':World} (hn:n=.value (x.den (bs++nw))∨n=.skip∧x=.un)
  {o:Oper} (ho:o.op=op) (hr: ∀ o:Oper,o.op=op→(execOp (actS bs T).eval o).run P w=.ok n w') (K':Act→World→Prop) (Q':Exit→Act→World→Prop) (hK:K' (actS (bs++nw) (setT T o.dst x)) w'):o.wp P (actS bs T) w K' Q':=by
 unfold Oper.wp
 rw [hr o ho]
 have hact:actS bs T=actS (bs++nw) T:=by unfold actS;rw [denL_app T (by rw [hl];exact hT)]
 rcases hn with rfl|⟨rfl,rfl⟩
 ·simp only [Oper.upon]
  rw [hact,put_setT];exact hK
 ·simp only [Oper.upon]
  rw [hact,show (undef:Value)=SV.un.den (bs++nw) by simp only [SV.den],put_setT];exact hK
theorem go_op [Bd] {s:ST} (op:Op) (h:curOp s=some op) (hs:Wk bs s w) (w':World) (x:SV) (nw:List Nat) (H:List SB) (n:Next) (hr: ∀ o:Oper,o.op=op→(execOp (actS bs s.T).eval o).run P w=.ok n w') (hn:n=.value (x.den (bs++nw))∨n=.skip∧x=.un)
  (hsat:Sat (bs++nw) H w') (hk:Wk (bs++nw) (afterC s x H) w'→kx P Q (afterC s x H).K .normal (actS (bs++nw) (afterC s x H).T) w'):kx P Q s.K .normal (actS bs s.T) w:=by
 have hap:PreK (bs++nw) (afterC s x H).K:=afterC_pre hs.pre
 have hl:=hs.sat.len
 clear hs
 obtain ⟨K,T,H0,ob⟩:=s
 unfold curOp at h
 simp only at h hl hr hk ⊢
 split at h
 ·rename_i all o r k
  split at h
  ·rename_i hw
   split at h
   ·rename_i hT
    simp only [Option.some.injEq] at h
    replace hk:=hk ⟨by simpa [afterC] using hsat,hap⟩
    simp only [kx]
    unfold wpList
    rw [if_pos (by rw [wantS_run hw])]
    left
    exact put_op hl hT hn h hr _ _ hk
   ·cases h
  ·cases h
 ·cases h
theorem go_opD [Bd] {s:ST} (op:Op) (us:List TypeId) (wr:World) (h:curD s=some (op,us)) (hwr:drW s=some wr) (hs:Wk bs s w) (w':World) (x:SV) (nw:List Nat) (H:List SB) (n:Next) (hr: ∀ o:Oper,o.op=op→(execOp (actS bs s.T).eval o).run P w=.ok n w') (hn:n=.value (x.den (bs++nw))∨n=.skip∧x=.un)
  (hsat:Sat (bs++nw) H w') (hside:Kept us wr w→Kept us wr w') (hk:Wk (bs++nw) (afterC s x H) w'→kx P Q (afterC s x H).K .normal (actS (bs++nw) (afterC s x H).T) w'):kx P Q s.K .normal (actS bs s.T) w:=by
 have hap:PreK (bs++nw) (afterC s x H).K:=afterC_pre hs.pre
 have hl:=hs.sat.len
 clear hs
 obtain ⟨K,T,H0,ob⟩:=s
 unfold curD at h
 unfold drW at hwr
 simp only at h hl hr hk hwr ⊢
 split at h
 ·rename_i ops Ls us' Hr bsr wr' f' listed k
  simp only [Option.some.injEq] at hwr
  subst hwr
  split at h
  ·rename_i i hi
   split at h
   ·rename_i o ho
    split at h
    ·rename_i hw
     split at h
     ·rename_i hT
      simp only [Option.some.injEq,Prod.mk.injEq] at h
      obtain ⟨h,rfl⟩:=h
      replace hk:=hk ⟨by simpa [afterC,hi,ho] using hsat,hap⟩
      simp only [kx]
      intro hsat' hC
      refine ⟨fun hh=>(by rw [soleI_of hi] at hh;cases hh),fun j hj=>?_⟩
      rw [soleI_of hi] at hj
      obtain rfl:j=i:=by simpa using hj
      unfold okOp
      simp only [ho]
      rw [if_pos (by rw [wantS_run hw])]
      simp only [afterC,hi,ho] at hk ⊢
      exact put_op hl hT hn h hr _ _ ⟨.inr (hside (hC (by trivial))),hk hsat' (fun _=>hside (hC (by trivial)))⟩
     ·cases h
    ·cases h
   ·cases h
  ·cases h
 ·cases h
def callV (s:ST):Option (SV×List SV):=match s.K with
 | .ops all (o::_)::_=>match wantS s.T all o with
   |some true=>if SV.ltL s.H.length s.T then (match o.op with
    | .call c=>match c.callee with
      | .value g=>some (evS s.T g,c.args.toList.map (evS s.T))
      |_=>none
    |_=>none) else none
   |_=>none
 |_=>none
theorem go_callV [Bd] {s:ST} (fv:SV) (args:List SV) (g:FuncId) (capv:Array Value) (h:callV s=some (fv,args)) (hfv:fv.den bs=.func (.func g) #[] capv) (hb:bodyB P g=true) (hs:Wk bs s w)
  (hc:Calls P g ((SV.denL bs args).toArray++capv) w fun e w'=> ∃ (x:SV) (nw:List Nat) (H:List SB),e=.returned (x.den (bs++nw))∧Sat (bs++nw) H w'∧(Wk (bs++nw) (afterC s x H) w'→kx P Q (afterC s x H).K .normal (actS (bs++nw) (afterC s x H).T) w')):
  kx P Q s.K .normal (actS bs s.T) w:=by
 have hap: ∀ (x:SV) (H:List SB) (nw:List Nat),PreK (bs++nw) (afterC s x H).K:=fun x H nw=>afterC_pre hs.pre
 have hl:=hs.sat.len
 clear hs
 obtain ⟨K,T,H,ob⟩:=s
 unfold callV at h
 simp only at h hl ⊢
 split at h
 ·rename_i all o r k
  split at h
  ·rename_i hw
   split at h
   ·rename_i hT
    split at h
    ·rename_i c hop
     split at h
     ·rename_i gx hcal
      simp only [Option.some.injEq,Prod.mk.injEq] at h
      obtain ⟨rfl,rfl⟩:=h
      have hρ:(actS bs T).eval=fun x=>(evS T x).den bs:=funext (ev_den bs T)
      have ha:(c.args.map fun x=>(evS T x).den bs)=(SV.denL bs (c.args.toList.map (evS T))).toArray:=by
       apply Array.ext'
       simp [denL_map,Function.comp_def]
      have hrun:(execOp (actS bs T).eval o).run P w=.ok (.enter g ((SV.denL bs (c.args.toList.map (evS T))).toArray++capv)) w:=by
       rw [hρ]
       simp only [execOp,hop,resolve,hcal,hfv,Deferred.ofValue,Sem.run_bind,Sem.run_pure,Result.andThen,invoke]
       rw [ha,bodyB_run hb]
       congr 2
       apply Array.ext'
       simp
      simp only [kx]
      unfold wpList
      rw [if_pos (by rw [wantS_run hw])]
      left
      unfold Oper.wp
      rw [hrun]
      simp only [Oper.upon]
      refine hc.mono fun e w'=>?_
      rintro ⟨x,nw,H',rfl,hsat,hk⟩
      replace hk:=hk ⟨by simpa [afterC] using hsat,hap x H' nw⟩
      simp only
      have hact:actS bs T=actS (bs++nw) T:=by unfold actS;rw [denL_app T (by rw [hl];exact hT)]
      rw [hact,put_setT]
      exact hk
     ·cases h
    ·cases h
   ·cases h
  ·cases h
 ·cases h
def hav (ws:List Nat) (xs:Nat→Value):List SV→List SV
 |T=>ws.foldl (fun T i=>T.set i (.va (xs i))) T
def loopB (s:ST):Bool:=match s.K with
 | .code (.loop _)::_=>true
 |_=>false
def bodyS (s:ST) (q:Act→World→Prop) (T:List SV) (H:List SB):ST:=match s.K with
 | .code (.loop c)::k=>⟨.code c::.fin q::k,T,H,[]⟩
 |_=>s
def Hand [Bd] (J:Nat→List Nat→List SV→List SB→World→Prop) (n:Nat) (a:Act) (w:World):Prop:= ∃ n',n' < n∧ ∃ bs T H,a=actS bs T∧Sat bs H w∧J n' bs T H w
theorem go_loop [Bd] {s:ST} (J:Nat→List Nat→List SV→List SB→World→Prop) (n0:Nat) (hl:loopB s=true) (hs:Wk bs s w) (mk:(Nat→Value)→List SV) (H0:List SB) (hT:SV.denL bs s.T=SV.denL bs (mk fun i=>(s.T.getD i .un).den bs)) (hH:s.H=H0) (h0: ∀ xs,J n0 bs (mk xs) H0 w)
  (hpre: ∀ n bs' T H w',J n bs' T H w'→ ∃ nw,bs'=bs++nw)
  (round: ∀ n bs' T H w',J n bs' T H w'→Wk bs' (bodyS s (Hand J n) T H) w'→kx P Q (bodyS s (Hand J n) T H).K .normal (actS bs' (bodyS s (Hand J n) T H).T) w'):kx P Q s.K .normal (actS bs s.T) w:=by
 obtain ⟨K,T,H,ob⟩:=s
 unfold loopB at hl
 simp only at hl hs hT h0 hH round ⊢
 subst hH
 split at hl
 ·rename_i c k
  simp only [kx]
  refine wp_loop_ghost (fun n a w'=> ∃ bs' T H,a=actS bs' T∧Sat bs' H w'∧J n bs' T H w') n0 ⟨bs,_,H,by unfold actS;rw [hT],hs.sat,h0 _⟩ ?_
  rintro n a w' ⟨bs',T',H',rfl,hsat,hJ⟩
  have:=round n bs' T' H' w' hJ ⟨by simpa [bodyS] using hsat,by
   obtain ⟨nw,rfl⟩:=hpre _ _ _ _ _ hJ
   have:=PreK_app (nw:=nw) hs.pre
   exact this⟩
  simp only [bodyS,kx] at this
  refine wp_mono this (fun e a2 w2 hq=>?_)
  cases e<;>exact hq
 ·cases hl
def finQ (s:ST):Option (Act→World→Prop):=match s.K with
 | .fin q::_=>some q
 |_=>none
theorem go_fin [Bd] {s:ST} (q:Act→World→Prop) (h:finQ s=some q) (mk:(Nat→Value)→List SV) (hT:SV.denL bs s.T=SV.denL bs (mk fun i=>(s.T.getD i .un).den bs)) (hq: ∀ xs,q (actS bs (mk xs)) w):kx P Q s.K .normal (actS bs s.T) w:=by
 have e:actS bs s.T=actS bs (mk fun i=>(s.T.getD i .un).den bs):=by unfold actS;rw [hT]
 rw [e]
 replace hq:=hq (fun i=>(s.T.getD i .un).den bs)
 generalize (fun i=>(s.T.getD i .un).den bs)=xs at *
 obtain ⟨K,T,H,ob⟩:=s
 unfold finQ at h
 simp only at h hq ⊢
 split at h
 ·simp only [Option.some.injEq] at h
  subst h
  simpa [kx] using hq
 ·cases h
end
attribute [irreducible] bodyS
section
variable {P:Program} {Q:Exit→Act→World→Prop} {bs:List Nat} {w:World}
theorem go_load [Bd] {s:ST} (t:TypeId) (x:Operand) (a:Addr) (v:SV) (H:List SB) (h:curOp s=some (.load t x)) (ha:evS s.T x=.ptr a) (hag:aggT P t=some false) (hs:Wk bs s w) (hH:s.H=H) (hc:w.cell? a=some (v.den bs))
  (hk:Wk bs (afterC s v H) w→kx P Q (afterC s v H).K .normal (actS bs (afterC s v H).T) w):kx P Q s.K .normal (actS bs s.T) w:=by
 refine go_op (.load t x) h hs w v [] H (.value (v.den bs)) (fun o ho=>?_) (.inl (by rw [List.append_nil])) (by rw [List.append_nil];exact hs.satE H hH) (fun hW=>?_)
 ·have e1:(actS bs s.T).eval x=.pointer (some a):=by rw [ev_den,ha,SV.den]
  simp only [execOp,ho,e1,Instr.loadAt,Instr.sureAddr,loadVar,Sem.run_bind,Sem.run_pure,Result.andThen,aggT_run hag]
  simp [hc,Result.andThen]
 ·rw [List.append_nil] at hW ⊢
  exact hk hW
theorem go_loadA [Bd] {s:ST} (t:TypeId) (x:Operand) (a:Addr) (l:List SV) (H:List SB) (h:curOp s=some (.load t x)) (ha:evS s.T x=.ptr a) (hag:aggT P t=some true) (hsz:sizeT P t=some l.length) (hs:Wk bs s w) (hH:s.H=H) (hc: ∀ j y,l[j]? =some y→w.cell? (a.add j)=some (y.den bs))
  (hk:Wk bs (afterC s (.agg l) H) w→kx P Q (afterC s (.agg l) H).K .normal (actS bs (afterC s (.agg l) H).T) w):kx P Q s.K .normal (actS bs s.T) w:=by
 refine go_op (.load t x) h hs w (.agg l) [] H (.value ((SV.agg l).den bs)) (fun o ho=>?_) (.inl (by rw [List.append_nil])) (by rw [List.append_nil];exact hs.satE H hH) (fun hW=>?_)
 ·have e1:(actS bs s.T).eval x=.pointer (some a):=by rw [ev_den,ha,SV.den]
  have:=run_loadCells_list (P:=P) w a (SV.denL bs l) (fun j v hj=>by
   rw [denL_get] at hj
   obtain ⟨y,hy,rfl⟩:=Option.map_eq_some_iff.1 hj
   exact hc j y hy)
  simp only [denL_length] at this
  simp only [execOp,ho,e1,Instr.loadAt,Instr.sureAddr,loadVar,Sem.run_bind,Sem.run_pure,Result.andThen,aggT_run hag,if_true,sizeT_run hsz,this,SV.den]
 ·rw [List.append_nil] at hW ⊢
  exact hk hW
end
def memL (bs:List Nat) (w:World):Nat→List SB→Prop
 |_,[]=>True
 |i,o::r=>w.heap[nmB bs i]? =some (.cells (SV.denL bs o.cs).toArray o.ty (0,0))∧memL bs w (i+1) r
theorem memL_get [Bd] {bs:List Nat} {w:World}: ∀ {H:List SB} {k:Nat},memL bs w k H→ ∀ i ob,H[i]? =some ob→w.heap[nmB bs (k+i)]? =some (.cells (SV.denL bs ob.cs).toArray ob.ty (0,0))
 |[],_,_,i,ob,h=>by simp at h
 |o::r,k,hm,i,ob,h=>by
  cases i with
  |zero=>simp only [List.getElem?_cons_zero,Option.some.injEq] at h;subst h;exact hm.1
  |succ i=>
   have:=memL_get hm.2 i ob (by simpa using h)
   rw [show k+1+i=k+(i+1) by omega] at this
   exact this
theorem memL_get0 [Bd] {bs:List Nat} {w:World} {H:List SB} (hm:memL bs w 0 H) (i:Nat) (ob:SB) (h:H[i]? =some ob):w.heap[nmB bs i]? =some (.cells (SV.denL bs ob.cs).toArray ob.ty (0,0)):=by
 have:=memL_get hm i ob h
 rwa [Nat.zero_add] at this
theorem nmB_get [Bd] {bs:List Nat} {i:Nat} (h:i < bs.length):nmB bs i=bs[i]:=by simp [nmB,List.getD_eq_getElem?_getD,h]
theorem sz_of [Bd] {bs:List Nat} {H:List SB} {w:World} (h: ∀ x∈bs,Bd.B≤x) (h0:bs≠[]) (hl:bs.length=H.length) (hm: ∀ b ob,H[b]? =some ob→w.heap[nmB bs b]? =some (.cells (SV.denL bs ob.cs).toArray ob.ty (0,0))):Bd.B≤w.heap.size:=by
 cases bs with
 |nil=>exact absurd rfl h0
 |cons x r=>
  have h1:0 < H.length:=by rw [←hl];simp
  have h2:=hm 0 _ (List.getElem?_eq_getElem h1)
  have h3:nmB (x::r) 0=x:=rfl
  rw [h3] at h2
  have h4:=(Array.getElem?_eq_some_iff.1 h2).1
  have h5:=h x (by simp)
  omega
theorem Sat.re [Bd] {bs:List Nat} {H H':List SB} {w w':World} (h:Sat bs H w) (hl:H'.length=H.length) (hm:memL bs w' 0 H') (h0:bs≠[]:=by simp):Sat bs H' w':=
 ⟨by rw [h.len,hl],h.inj,memL_get0 hm,h.lo,sz_of h.lo h0 (by rw [h.len,hl]) (memL_get0 hm)⟩
theorem Sat.ext [Bd] {bs:List Nat} {H H':List SB} {w w':World} (h:Sat bs H w) {nb:Nat} (hn:w.heap.size≤nb) (hl:H'.length=H.length+1) (hm:memL (bs++[nb]) w' 0 H'):Sat (bs++[nb]) H' w':=by
 have hlo: ∀ x∈bs++[nb],Bd.B≤x:=fun x hx=>by
  rcases List.mem_append.1 hx with hx|hx
  ·exact h.lo x hx
  ·simp only [List.mem_singleton] at hx;subst hx;exact Nat.le_trans h.sz hn
 refine ⟨by simp [h.len,hl],fun i j hi hj he=>?_,memL_get0 hm,hlo,sz_of hlo (by simp) (by simp [h.len,hl]) (memL_get0 hm)⟩
 have hnew:nmB (bs++[nb]) bs.length=nb:=by simp [nmB]
 have hold: ∀ i,i < bs.length→nmB bs i < nb:=fun i hi=>by
  have:=h.old_lt (nmB bs i) (by rw [nmB_get hi];exact List.getElem_mem _)
  omega
 simp only [List.length_append,List.length_cons,List.length_nil] at hi hj
 by_cases h1:i < bs.length
 ·by_cases h2:j < bs.length
  ·rw [getD_app h1,getD_app h2] at he;exact h.inj i j h1 h2 he
  ·obtain rfl:j=bs.length:=by omega
   rw [getD_app h1,hnew] at he
   have:=hold i h1;omega
 ·obtain rfl:i=bs.length:=by omega
  by_cases h2:j < bs.length
  ·rw [getD_app h2,hnew] at he
   have:=hold j h2;omega
  ·omega
theorem Sat.sub [Bd] {bs:List Nat} {H H':List SB} {w w':World} (h:Sat bs H w) (idx:List Nat) (hnd:idx.Nodup) (hlt: ∀ i∈idx,i < bs.length) (hl:H'.length=idx.length) (hm:memL (idx.map (nmB bs)) w' 0 H') (h0:idx≠[]:=by simp):Sat (idx.map (nmB bs)) H' w':=by
 have hlo: ∀ x∈idx.map (nmB bs),Bd.B≤x:=fun x hx=>by
  obtain ⟨i,hi,rfl⟩:=List.mem_map.1 hx
  exact h.loN (hlt i hi)
 refine ⟨by simp [hl],fun i j hi hj he=>?_,memL_get0 hm,hlo,sz_of hlo (by simpa using h0) (by simp [hl]) (memL_get0 hm)⟩
 simp only [List.length_map] at hi hj
 rw [nmB_get (by simpa using hi),nmB_get (by simpa using hj)] at he
 simp only [List.getElem_map] at he
 have:=h.inj _ _ (hlt _ (List.getElem_mem hi)) (hlt _ (List.getElem_mem hj)) he
 have hp:=List.pairwise_iff_getElem.1 hnd
 apply Classical.byContradiction
 intro hij
 rcases Nat.lt_or_gt_of_ne hij with h1|h1
 ·exact hp i j hi hj h1 this
 ·exact hp j i hj hi h1 this.symm
theorem blk_any [Bd] {w:World} {b:Nat} {bs bs':List Nat} {l:List SV} {t:TypeId} (h:w.heap[b]? =some (.cells (SV.denL bs l).toArray t (0,0))) (hl:SV.ltL 0 l=true):w.heap[b]? =some (.cells (SV.denL bs' l).toArray t (0,0)):=by
 have h1:=denL_app (bs:=[]) (xs:=bs) l hl
 have h2:=denL_app (bs:=[]) (xs:=bs') l hl
 rw [List.nil_append] at h1 h2
 rw [h2, ←h1];exact h
section
variable {P:Program} {Q:Exit→Act→World→Prop} {bs:List Nat} {w:World}
def callE (P:Program) (s:ST):Option (FuncId×List SV):=match s.K with
 | .dr ops Ls _ _ _ _ false (_+1) listed::_=>match soleI ops listed with
   |some i=>if Ls.contains i then (match ops[i]? with
    |some o=>match wantS s.T ops o with
     |some true=>if SV.ltL s.H.length s.T then callS P s.T o.op else none
     |_=>none
    |none=>none) else none
   |none=>none
 |_=>none
def afterE (s:ST) (x:SV) (H:List SB):ST:=match s.K with
 | .dr ops Ls us Hr bsr wr _ (f+1) listed::k=>match soleI ops listed with
   |some i=>match ops[i]? with
    |some o=>⟨.dr ops Ls us Hr bsr wr true f (listed.setIfInBounds i true)::k,setT s.T o.dst x,H,[]⟩
    |none=>s
   |none=>s
 |_=>s
theorem afterE_pre [Bd] {s:ST} {x:SV} {H:List SB} {nw:List Nat} (h:PreK bs s.K):PreK (bs++nw) (afterE s x H).K:=by
 obtain ⟨K,T,H0,ob⟩:=s
 unfold afterE
 simp only at h ⊢
 split
 ·split
  ·split
   ·exact PreK_app (k:=.dr _ _ _ _ _ _ _ _ _::_) h
   ·exact PreK_app h
  ·exact PreK_app h
 ·exact PreK_app h
theorem go_callE [Bd] {s:ST} (f:FuncId) (args:List SV) (h:callE P s=some (f,args)) (hs:Wk bs s w)
  (hc:Calls P f (SV.denL bs args).toArray w fun e w'=> ∃ (x:SV) (nw:List Nat) (H:List SB),e=.returned (x.den (bs++nw))∧Sat (bs++nw) H w'∧(Wk (bs++nw) (afterE s x H) w'→kx P Q (afterE s x H).K .normal (actS (bs++nw) (afterE s x H).T) w')):
  kx P Q s.K .normal (actS bs s.T) w:=by
 have hap: ∀ (x:SV) (H:List SB) (nw:List Nat),PreK (bs++nw) (afterE s x H).K:=fun x H nw=>afterE_pre hs.pre
 have hl:=hs.sat.len
 clear hs
 obtain ⟨K,T,H,ob⟩:=s
 unfold callE at h
 simp only at h hl ⊢
 split at h
 ·rename_i ops Ls us' Hr bsr wr' f' listed k
  split at h
  ·rename_i i hi
   split at h
   ·rename_i hLs
    split at h
    ·rename_i o ho
     split at h
     ·rename_i hw
      split at h
      ·rename_i hT
       simp only [kx]
       intro hsat hC
       refine ⟨fun hh=>(by rw [soleI_of hi] at hh;cases hh),fun j hj=>?_⟩
       rw [soleI_of hi] at hj
       obtain rfl:j=i:=by simpa using hj
       unfold okOp
       simp only [ho]
       rw [if_pos (by rw [wantS_run hw])]
       unfold Oper.wp
       rw [callS_run h]
       simp only [Oper.upon]
       refine hc.mono fun e w'=>?_
       rintro ⟨x,nw,H',rfl,hsat',hk⟩
       replace hk:=hk ⟨by simpa [afterE,hi,ho] using hsat',hap x H' nw⟩
       simp only [afterE,hi,ho] at hk ⊢
       have hact:actS bs T=actS (bs++nw) T:=by unfold actS;rw [denL_app T (by rw [hl];exact hT)]
       rw [hact,put_setT]
       exact ⟨.inl (by simpa using hLs),hk hsat (fun hh=>by cases hh)⟩
      ·cases h
     ·cases h
    ·cases h
   ·cases h
  ·cases h
 ·cases h
end
section
variable {P:Program} {Q:Exit→Act→World→Prop} {bs:List Nat} {w:World}
def hoistI (P:Program) (s:ST) (i:Nat):Option (Op×List TypeId):=match s.K with
 | .dr ops Ls us _ _ _ false (_+1) listed::_=>if rdyB ops listed i&&Region.noSelect ops&&Region.free .any ops listed i&&holdB ops Ls listed i then (match ops[i]? with
   |some o=>match wantS s.T ops o with
    |some true=>some (o.op,us)
    |_=>none
   |none=>none) else none
 |_=>none
def afterH (s:ST) (i:Nat) (x:SV):ST:=match s.K with
 | .dr ops Ls us Hr bsr wr fz (f+1) listed::k=>match ops[i]? with
   |some o=>⟨.dr ops Ls us Hr bsr wr fz f (listed.setIfInBounds i true)::k,setT s.T o.dst x,s.H,[]⟩
   |none=>s
 |_=>s
theorem afterH_pre [Bd] {s:ST} {i:Nat} {x:SV} (h:PreK bs s.K):PreK bs (afterH s i x).K:=by
 obtain ⟨K,T,H0,ob⟩:=s
 unfold afterH
 simp only at h ⊢
 split
 ·split
  ·exact h
  ·exact h
 ·exact h
theorem go_hoist [Bd] {s:ST} (i:Nat) (op:Op) (us:List TypeId) (wr:World) (x:SV) (H:List SB) (h:hoistI P s i=some (op,us)) (hwr:drW s=some wr) (hs:Wk bs s w) (hH:s.H=H)
  (hr: ∀ w',Kept us wr w'→ ∀ o:Oper,o.op=op→(execOp (actS bs s.T).eval o).run P w'=.ok (.value (x.den bs)) w')
  (hk:Wk bs (afterH s i x) w→kx P Q (afterH s i x).K .normal (actS bs (afterH s i x).T) w):kx P Q s.K .normal (actS bs s.T) w:=by
 have hap:PreK bs (afterH s i x).K:=afterH_pre hs.pre
 have hsat:=hs.sat
 clear hs
 obtain ⟨K,T,H0,ob⟩:=s
 unfold hoistI at h
 unfold drW at hwr
 simp only at h hwr hsat hr hH ⊢
 split at h
 ·rename_i ops Ls us' Hr bsr wr' f' listed k
  simp only [Option.some.injEq] at hwr
  subst hwr
  split at h
  ·rename_i hc
   simp only [Bool.and_eq_true] at hc
   obtain ⟨⟨⟨hrdy,hsel⟩,hfree⟩,hhold⟩:=hc
   split at h
   ·rename_i o ho
    split at h
    ·rename_i hw
     simp only [Option.some.injEq,Prod.mk.injEq] at h
     obtain ⟨rfl,rfl⟩:=h
     simp only [afterH,ho] at hk hap
     replace hk:=hk ⟨by simpa using hsat,hap⟩
     simp only [kx] at hk ⊢
     intro hsr hC
     obtain ⟨B,hB1,hB2,hB3⟩:=holdB_spec hhold
     refine wpF_first (v:=x.den bs) ho (Region.noSelect_spec hsel) hB1 hB3 f' listed _ w (hC (by trivial)) hB2 (Region.free_spec ho hfree) (rdyB_mem hrdy) (.inl ⟨wantS_run hw,fun w' hC'=>.inl ?_⟩) ?_
     ·exact hr w' hC' o rfl
     ·rw [put_setT]
      exact hk hsr hC
    ·cases h
   ·cases h
  ·cases h
 ·cases h
theorem go_hload [Bd] {s:ST} (i:Nat) (t:TypeId) (x:Operand) (us:List TypeId) (wr:World) (a:Addr) (v:SV) (H:List SB) (h:hoistI P s i=some (.load t x,us)) (hwr:drW s=some wr) (ha:evS s.T x=.ptr a) (hag:aggT P t=some false) (hs:Wk bs s w) (hH:s.H=H)
  (hc: ∀ w',Kept us wr w'→w'.cell? a=some (v.den bs)) (hk:Wk bs (afterH s i v) w→kx P Q (afterH s i v).K .normal (actS bs (afterH s i v).T) w):kx P Q s.K .normal (actS bs s.T) w:=by
 refine go_hoist i (.load t x) us wr v H h hwr hs hH (fun w' hC o ho=>?_) hk
 have e1:(actS bs s.T).eval x=.pointer (some a):=by rw [ev_den,ha,SV.den]
 simp only [execOp,ho,e1,Instr.loadAt,Instr.sureAddr,loadVar,Sem.run_bind,Sem.run_pure,Result.andThen,aggT_run hag]
 simp [hc w' hC,Result.andThen]
theorem go_hloadA [Bd] {s:ST} (i:Nat) (t:TypeId) (x:Operand) (us:List TypeId) (wr:World) (a:Addr) (l:List SV) (H:List SB) (h:hoistI P s i=some (.load t x,us)) (hwr:drW s=some wr) (ha:evS s.T x=.ptr a) (hag:aggT P t=some true) (hsz:sizeT P t=some l.length) (hs:Wk bs s w) (hH:s.H=H)
  (hc: ∀ w',Kept us wr w'→ ∀ j y,l[j]? =some y→w'.cell? (a.add j)=some (y.den bs)) (hk:Wk bs (afterH s i (.agg l)) w→kx P Q (afterH s i (.agg l)).K .normal (actS bs (afterH s i (.agg l)).T) w):kx P Q s.K .normal (actS bs s.T) w:=by
 refine go_hoist i (.load t x) us wr (.agg l) H h hwr hs hH (fun w' hC o ho=>?_) hk
 have e1:(actS bs s.T).eval x=.pointer (some a):=by rw [ev_den,ha,SV.den]
 have:=run_loadCells_list (P:=P) w' a (SV.denL bs l) (fun j v hj=>by
  rw [denL_get] at hj
  obtain ⟨y,hy,rfl⟩:=Option.map_eq_some_iff.1 hj
  exact hc w' hC j y hy)
 simp only [denL_length] at this
 simp only [execOp,ho,e1,Instr.loadAt,Instr.sureAddr,loadVar,Sem.run_bind,Sem.run_pure,Result.andThen,aggT_run hag,if_true,sizeT_run hsz,this,SV.den]
end
section
variable {P:Program} {Q:Exit→Act→World→Prop} {bs:List Nat} {w:World}
theorem go_runF [Bd] (n:Nat) (cf:Cfg) {s:ST} {ts0:List TypeId} {w0:World} {bs0:List Nat} (hm:P.follows .mixedOrders=true) (hs:Wk bs s w) (hf:Fr ts0 w0 bs0 bs w) (hn:cf.n0=bs.length) (ob:List (Bool×Bool)) (ho:(runS P cf n s).ob=ob) (he:AllEq ob)
  (hk: ∀ nw w',Kept cf.ts w w'→Fr ts0 w0 bs0 (bs++nw) w'→Wk (bs++nw) (runS P cf n s) w'→kx P Q (runS P cf n s).K .normal (actS (bs++nw) (runS P cf n s).T) w')
  (hsub: ∀ t∈cf.ts,t∈ts0:=by simp) (hfm:4000000∈ts0→4000000∈cf.ts:=by simp):kx P Q s.K .normal (actS bs s.T) w:=
 runS_sound hm hn n s bs w (ho ▸ he) (At.refl hs.sat) hs.pre (fun nw w' hat hp=>by
  obtain ⟨nw2,e,hb⟩:=hat.pre
  obtain rfl:=List.append_cancel_left e
  obtain ⟨n0,e0,hb0⟩:=hf.pre
  refine hk nw w' hat.kept ⟨⟨n0++nw,by rw [e0,List.append_assoc],fun b hb'=>?_⟩,hf.kept.trans (hat.kept.mono hsub),fun hmm k hlt hnk=>(hat.far (hfm hmm) k (Nat.lt_of_lt_of_le hlt hf.kept.size) (fun hmem=>?_)).trans (hf.far hmm k hlt hnk)⟩ ⟨hat.sat,hp⟩
  ·rcases List.mem_append.1 hb' with h1|h1
   ·exact hb0 b h1
   ·exact Nat.le_trans hf.kept.size (hb b h1)
  ·rw [e0] at hmem
   rcases List.mem_append.1 hmem with h1|h1
   ·exact hnk h1
   ·have:=hb0 k h1;omega)
end
end Go.Proofs.YtghppnklhbbffaaGreatDoor.X
