/- Part 29 of the proof that laws.FnTreeLevel answers true, for arguments of small bulk. -/
import Derived.Test.YtghppnklhbbffaaGreatDoorR05
import Derived.Test.YtghppnklhbbffaaGreatDoorR26
import Derived.Test.YtghppnklhbbffaaGreatDoorR09
set_option linter.all false
set_option maxHeartbeats 4000000
set_option maxRecDepth 100000
namespace Go.Proofs.YtghppnklhbbffaaGreatDoor.X
open Go Go.RowKit Go.Proofs.YtghppnklhbbffaaGreatDoor.TL Go.Proofs.YtghppnklhbbffaaGreatDoor.PFnTreeLevel Go.Proofs.YtghppnklhbbffaaGreatDoorW.PrintWords
theorem posP_succ [Bd] (G:List S36) (steps:List S47) (j:Nat) (hj:j < steps.length):posP G steps (j+1)=stepP G (posP G steps j) steps[j]:=by
 unfold posP
 rw [List.take_succ_eq_append_getElem hj,List.foldl_append]
 rfl
def okP (G:List S36) (p:Option Nat):Prop:= ∀ i,p=some i→i < G.length
theorem inx_ok [Bd] (G:List S36) (i:Nat):okP G (inx G i):=by
 intro k h;unfold inx at h;split at h
 ·cases h;assumption
 ·cases h
theorem lastP_ok [Bd] (G:List S36):okP G (lastP G):=by
 intro k h;unfold lastP at h;split at h
 ·cases h
 ·cases h;omega
theorem ltP_ok [Bd] (G:List S36) (key:List UInt8):okP G (ltP G key):=by
 intro k h;unfold ltP at h;split at h
 ·cases h
 ·cases h;have:=lSeek_le G key;omega
theorem prevP_ok [Bd] {G:List S36} {i:Nat} (hi:i < G.length):okP G (prevP i):=by
 intro k h;unfold prevP at h;split at h
 ·cases h
 ·cases h;omega
theorem stepP_ok [Bd] {G:List S36} {p:Option Nat} (s:S47) (h:okP G p):okP G (stepP G p s):=by
 unfold stepP
 split
 ·exact inx_ok _ _
 split
 ·exact lastP_ok _
 split
 ·exact inx_ok _ _
 split
 ·exact ltP_ok _ _
 split
 ·cases p with
  |none=>intro k h;cases h
  |some i=>exact inx_ok _ _
 split
 ·cases p with
  |none=>intro k h;cases h
  |some i=>exact prevP_ok (h i rfl)
 ·exact h
theorem posP_ok [Bd] (G:List S36) (steps:List S47): ∀ (j:Nat),okP G (posP G steps j):=by
 have: ∀ (l:List S47) (p:Option Nat),okP G p→okP G (l.foldl (stepP G) p):=by
  intro l
  induction l with
  |nil=>intro p h;exact h
  |cons s l ih=>intro p h;exact ih _ (stepP_ok s h)
 intro j
 exact this _ _ (fun i h=>by cases h)
theorem outP_none [Bd] {G:List S36} {p:Option Nat} {s:S47} (h:stepP G p s=none):outP G p s=z50:=by
 unfold outP;split
 ·rfl
 ·rw [h];rfl
theorem outP_some [Bd] {G:List S36} {p:Option Nat} {s:S47} {i:Nat} {x:S36} (h5: ¬ 5 < s.f0) (h:stepP G p s=some i) (hx:G[i]? =some x):outP G p s=⟨x,true⟩:=by
 unfold outP;rw [if_neg h5,h]
 unfold foundP
 simp [hx]
theorem E24.mk' [Bd] {lb:Nat} {lo up:ByteArray} {hl hu:Bool} {A:Addr} {n c:Nat} {steps:List S47} {G:List S36} {R:Option Nat→World→Prop} {lv uv ov:V1} {w0 w w':World} {j:Nat} (h:I24 lb lo up hl hu A n c steps G R lv uv ov w0 j w) (hk:Kept [330,266,224] w w') (hR:R (posP G steps (j+1)) w'):E24 lo up hl hu A n c steps G R lv uv ov w0 j w':=by
 obtain ⟨_,q2,q3,q4,q5,q6⟩:=h
 exact ⟨hR,own_kept q2 hk (by simp),q3.kept hk (by simp),q4.kept hk (by simp),q5.kept hk (by decide),q6.trans (hk.mono (by simp))⟩
theorem run_mkMeth [Bd] {T:List SV} {bs:List Nat} (lb tm:Nat) (meth:String) (h:(evS T (.tmp tm)).den bs=.iface 236 (.pointer (some ⟨lb,0,none⟩))) (o:Oper) (ho:o.op=.makeFunc (.method meth) #[.tmp tm] #[]) (w:World):
  (execOp (actS bs T).eval o).run Tryz.prog w=.ok (.value ((SV.oc (.func (.method meth) #[.iface 236 (.pointer (some ⟨lb,0,none⟩))] #[]) rfl).den bs)) w:=by
 have e:(actS bs T).eval (.tmp tm)=.iface 236 (.pointer (some ⟨lb,0,none⟩)):=by rw [ev_den,h]
 simp only [execOp,ho,Instr.makeFunc,SV.den,Sem.run_bind,Sem.run_pure,Result.andThen]
 simp [e]
theorem run_nilMeth [Bd] {T:List SV} {bs:List Nat} (lb tm:Nat) (meth:String) (hna: ∀ w,(nilAhead (Tryz.prog.types.size+Made.depth) 236 (.pointer (some ⟨lb,0,none⟩)) meth).run Tryz.prog w=.ok (some false) w) (h:(evS T (.tmp tm)).den bs=.func (.method meth) #[.iface 236 (.pointer (some ⟨lb,0,none⟩))] #[]) (o:Oper) (ho:o.op=.nilCheck (.tmp tm)) (w:World):
  (execOp (actS bs T).eval o).run Tryz.prog w=.ok (.value ((SV.oc (.func (.method meth) #[.iface 236 (.pointer (some ⟨lb,0,none⟩))] #[]) rfl).den bs)) w:=by
 have e:(actS bs T).eval (.tmp tm)=.func (.method meth) #[.iface 236 (.pointer (some ⟨lb,0,none⟩))] #[]:=by rw [ev_den,h]
 unfold execOp
 rw [ho]
 simp only [e,SV.den]
 show Sem.run Tryz.prog (do
    let __do_lift ←program
    let __do_lift ←nilAhead (__do_lift.types.size+Made.depth) 236 (Value.pointer (some { block:=lb,off:=0 })) meth
    if (__do_lift !=some false)=true then do
        unsupported (Unsupported.noEntry "op/nilCheck.the method's receiver behind this interface value is a nil pointer, or cannot be seen to be none, and the arguments act or may panic (ledger 612)")
        pure (Next.value (Value.func (Fn.method meth) #[Value.iface 236 (Value.pointer (some { block:=lb,off:=0 }))] #[]))
     else pure (Next.value (Value.func (Fn.method meth) #[Value.iface 236 (Value.pointer (some { block:=lb,off:=0 }))] #[]))) w=_
 simp only [Sem.run_bind,show (program:Sem Program).run Tryz.prog w=.ok Tryz.prog w from rfl,Result.andThen,hna]
 rfl
abbrev nsV:V1:=⟨.slice none 0 0,rfl⟩
structure Bnds (lo up:ByteArray) (hl hu:Bool) (G:List S36):Prop where
 lo0: ∀ l,opt hl lo=some l→lSeek G l=0∧inK (opt hl lo) (opt hu up) l
 up0: ∀ u,opt hu up=some u→lSeek G u=G.length∧inK (opt hl lo) (opt hu up) u
 key: ∀ k:ByteArray,lSeek G (TL.bs (wkey lo up hl hu k))=lSeek G (TL.bs k)∧inK (opt hl lo) (opt hu up) (TL.bs (wkey lo up hl hu k))
abbrev H24x (lo up:ByteArray) (hl hu:Bool) (op:Int) (key:ByteArray):List SB:=[⟨45,B45 lo up hl hu⟩,⟨47,[.it .u8 op,o1 (sV key)]⟩,⟨224,[.ns,.np]⟩]
def FNF [Bd] (lb:Nat) (lo up:ByteArray) (hl hu:Bool) (A:Addr) (n c:Nat) (steps:List S47) (G:List S36) (R:Option Nat→World→Prop) (lv uv:V1) (bb:Nat) (w0:World) (m j:Nat) (ov:V1) (op:Int) (key:ByteArray) (S:ST):Prop:=
 (let T:=runS Tryz.prog ⟨[224],3,[],[],0⟩ 200 (afterC S (.tup [.np,.agg [.ns,.np]]) (H24x lo up hl hu op key));T.ob=[]∧T.H.length=3∧(∀ bs,vals bs T.H=vals bs (H24 lo up hl hu ⟨op,key⟩ nsV npV))∧T.K=KN (K24 lb lo up hl hu A n c lv uv (Hand (J24 lb lo up hl hu A n c steps G R lv uv bb w0) m))∧T.T.length=172∧ ∀ bs,((151,o1 ov)::(152,ze36)::keep24 lb A n c (o1 lv) (o1 uv) ov false j).map (fun p=>(T.T.getD p.1 .un).den bs)=((151,o1 ov)::(152,ze36)::keep24 lb A n c (o1 lv) (o1 uv) ov false j).map (fun p=>p.2.den bs))∧
 ∀ (a:Addr) (vu:V1),let T:=runS Tryz.prog ⟨[224],3,[],[],0⟩ 200 (afterC S (.tup [.ptr a,.agg [o1 vu,.np]]) (H24x lo up hl hu op key));T.ob=[]∧T.H.length=3∧(∀ bs,vals bs T.H=vals bs (H24 lo up hl hu ⟨op,key⟩ vu npV))∧T.K=KS (K24 lb lo up hl hu A n c lv uv (Hand (J24 lb lo up hl hu A n c steps G R lv uv bb w0) m))∧T.T.length=172∧ ∀ bs,((155,.ptr a)::(156,.ptr a)::(18,.p 2 0)::keep24 lb A n c (o1 lv) (o1 uv) ov true j).map (fun p=>(T.T.getD p.1 .un).den bs)=((155,.ptr a)::(156,.ptr a)::(18,.p 2 0)::keep24 lb A n c (o1 lv) (o1 uv) ov true j).map (fun p=>p.2.den bs)
section
variable [Bd] {lb:Nat} {lo up:ByteArray} {hl hu:Bool} {A:Addr} {n c:Nat} {steps:List S47} {G:List S36} {R:Option Nat→World→Prop} {lv uv:V1} {bb:Nat} {w0:World} {Q:Exit→Act→World→Prop} {m j:Nat} {ov:V1} {w:World} {sb vb:Nat} {op:Int} {key:ByteArray}
theorem tR (hit:ItOK lb G (opt hl lo) (opt hu up) R) (hn:n < 2^30) (hln:steps.length=n) (hj:j < n) (hm:m+j=n) (hI:I24 lb lo up hl hu A n c steps G R lv uv ov w0 j w) (hst:steps[j]'(hln.symm ▸ hj)=⟨op,key⟩) {S:ST} {o:Option Nat} {v3 w4:World} {v:Value} (h5:op≤5) (hs4:Sat [bb,sb,vb] (H24x lo up hl hu op key) w4) (hE:Kept [330,266,224] w w4) (hpX:posP G steps (j+1)=o) (hres:KRes w4 (o.bind fun i=>G[i]?) v) (hR4:R o w4) (hNF:FNF lb lo up hl hu A n c steps G R lv uv bb w0 m j ov op key S):
  ∃ x:SV,v=x.den [bb,sb,vb]∧(Wk [bb,sb,vb] (afterC S x (H24x lo up hl hu op key)) w4→kx Tryz.prog Q (afterC S x (H24x lo up hl hu op key)).K .normal (actS [bb,sb,vb] (afterC S x (H24x lo up hl hu op key)).T) w4):=by
 have hps:=posP_succ G steps j (by omega)
 have hok:=posP_ok G steps (j+1)
 cases o with
 |none=>
  have hres:v=_:=hres
  subst hres
  refine ⟨.tup [.np,.agg [.ns,.np]],rfl,fun hV4=>?_⟩
  obtain ⟨f1,f2,f3,f4,f5,f6⟩:=hNF.1
  refine gr0 (bs:=[bb,sb,vb]) 200 ⟨[224],3,[],[],0⟩ hV4 (fun v5 hG5 hV5=>?_) [] trivial (by kernel_rfl) rfl f1 f2
  refine go_cutD (KN (K24 lb lo up hl hu A n c lv uv (Hand (J24 lb lo up hl hu A n c steps G R lv uv bb w0) m))) 172 ((151,o1 ov)::(152,ze36)::keep24 lb A n c (o1 lv) (o1 uv) ov false j) (H24 lo up hl hu ⟨op,key⟩ nsV npV) f4 f5 (f6 _) hV5 (hV5.sq _ (f3 _)) (fun xs2 hcut=>?_)
  exact mwN lb lo up hl hu A n c steps G R hit _ _ bb w0 hn hln m j hj hm xs2 ov false ⟨op,key⟩ nsV npV sb vb v5 (E24.mk' hI (hE.tr hG5 (ts:=[330,266,224])) (by rw [hpX];exact hit.kept _ _ _ hR4 (hG5.mono (by simp)))) (outP_none (by rw [←hps,hpX])) (by rw [hpX];rfl) hcut
 |some i=>
  have hiG:i < G.length:=hok i hpX
  have hxe:G[i]? =some G[i]:=List.getElem?_eq_getElem hiG
  have hres:KRes w4 (G[i]?) v:=hres
  rw [hxe] at hres
  obtain ⟨g,off,ku,vu,cs,f,rfl,q3,q4,q5,q6,q7⟩:=hres
  refine ⟨.tup [.ptr ⟨g,off,none⟩,.agg [o1 ⟨vu,rdS_one q7⟩,.np]],rfl,fun hV4=>?_⟩
  obtain ⟨f1,f2,f3,f4,f5,f6⟩:=hNF.2 ⟨g,off,none⟩ ⟨vu,rdS_one q7⟩
  refine gr0 (bs:=[bb,sb,vb]) 200 ⟨[224],3,[],[],0⟩ hV4 (fun v5 hG5 hV5=>?_) [] trivial (by kernel_rfl) rfl f1 f2
  refine go_cutD (KS (K24 lb lo up hl hu A n c lv uv (Hand (J24 lb lo up hl hu A n c steps G R lv uv bb w0) m))) 172 ((155,.ptr ⟨g,off,none⟩)::(156,.ptr ⟨g,off,none⟩)::(18,.p 2 0)::keep24 lb A n c (o1 lv) (o1 uv) ov true j) (H24 lo up hl hu ⟨op,key⟩ ⟨vu,rdS_one q7⟩ npV) f4 f5 (f6 _) hV5 (hV5.sq _ (f3 _)) (fun xs2 hcut=>?_)
  have hsol:=solid_of (ts:=[224]) q3 (by simp)
  exact mwS lb lo up hl hu A n c steps G R hit _ _ bb w0 hn hln m j hj hm xs2 ov ⟨op,key⟩ G[i] g off ⟨ku,rdS_one q6⟩ ⟨vu,rdS_one q7⟩ cs f sb vb v5 (E24.mk' hI (hE.tr hG5 (ts:=[330,266,224])) (by rw [hpX];exact hit.kept _ _ _ hR4 (hG5.mono (by simp)))) (outP_some (i:=i) (by rw [hst];show ¬ 5 < op;omega) (by rw [←hps,hpX]) hxe) (by rw [hpX];rfl) ((hG5.block g hsol).trans q3) (hG5.cell (p:=⟨g,off,none⟩) hsol q4) (hG5.cell (p:=⟨g,off+1,none⟩) hsol q5) (q6.kept hG5 (by simp)) (q7.kept hG5 (by simp)) hcut
theorem tG (hit:ItOK lb G (opt hl lo) (opt hu up) R) (hn:n < 2^30) (hln:steps.length=n) (hj:j < n) (hm:m+j=n) (hI:I24 lb lo up hl hu A n c steps G R lv uv ov w0 j w) (hst:steps[j]'(hln.symm ▸ hj)=⟨op,key⟩) {S:ST} (f:FuncId) (args:List SV) {o:Option Nat} {v3:World} (h5:op≤5) (hW:Wk [bb,sb,vb] S v3) (hX:Ext w v3) (hpX:posP G steps (j+1)=o) (hc:R (posP G steps j) v3→Calls Tryz.prog f (SV.denL [bb,sb,vb] args).toArray v3 (ARes R G o v3)) (h0:callF Tryz.prog S=some (f,args)) (hH:vals [bb,sb,vb] S.H=vals [bb,sb,vb] (H24x lo up hl hu op key)) (hNF:FNF lb lo up hl hu A n c steps G R lv uv bb w0 m j ov op key S):
  kx Tryz.prog Q S.K .normal (actS [bb,sb,vb] S.T) v3:=by
 have hs:=hW.sq _ hH
 refine gc f args hW ((hc (hit.kept _ _ _ hI.1 (hX.mono (by simp)))).mono ?_) h0
 rintro e w4 ⟨⟨v,rfl,hres⟩,hK4,hR4⟩
 have hs4:=hs.kq hK4
 obtain ⟨x,e1,h3⟩:=tR hit hn hln hj hm hI hst (v3:=v3) (Q:=Q) h5 hs4 (hX.tr hK4 (ts:=[330,266,224])) hpX hres hR4 hNF
 exact ⟨x,[],_,by rw [e1];rfl,hs4,h3⟩
end
section
variable {Q:Exit→Act→World→Prop}
theorem p24 [Bd] {lb:Nat} {lo up:ByteArray} {hl hu:Bool} {A:Addr} {n c:Nat} {steps:List S47} {G:List S36} {R:Option Nat→World→Prop} {lv uv:V1} {w0:World} {j:Nat} {ov:V1} {w:World} {op:Int} {key:ByteArray} {B:ST} {bb:Nat} (x:SV) (hx:x.den [bb]=.int .u8 op) (hln:steps.length=n) (hj:j < n) (hI:I24 lb lo up hl hu A n c steps G R lv uv ov w0 j w) (hst:steps[j]'(hln.symm ▸ hj)=⟨op,key⟩) (hW:Wk [bb] B w)
  (hk: ∀ v1,Ext w v1→Wk [bb] (afterC (runS Tryz.prog ⟨[],1,[],[(30,true)],0⟩ 200 B) (.agg [x,o1 (sV key)]) [⟨45,B45 lo up hl hu⟩]) v1→kx Tryz.prog Q (afterC (runS Tryz.prog ⟨[],1,[],[(30,true)],0⟩ 200 B) (.agg [x,o1 (sV key)]) [⟨45,B45 lo up hl hu⟩]).K .normal (actS [bb] (afterC (runS Tryz.prog ⟨[],1,[],[(30,true)],0⟩ 200 B) (.agg [x,o1 (sV key)]) [⟨45,B45 lo up hl hu⟩]).T) v1)
  (hf:let T:=runS Tryz.prog ⟨[],1,[],[(30,true)],0⟩ 200 B;T.ob=[(decide ((j:Int) < n),true),(decide ((0:Int)≤j),true),(decide ((j:Int) < n),true)]∧T.H.length=1∧curOp T=some (.load 47 (.tmp 31))∧evS T.T (.tmp 31)=.ptr (A.add ((j:Int).toNat*2))∧T.H=[⟨45,B45 lo up hl hu⟩]:=by exact ⟨by kernel_rfl,by kernel_rfl,by kernel_rfl,by kernel_rfl,by kernel_rfl⟩):
  kx Tryz.prog Q B.K .normal (actS [bb] B.T) w:=by
 obtain ⟨f1,f2,f3,f4,f5⟩:=hf
 refine gr0 (bs:=[bb]) 200 ⟨[],1,[],[(30,true)],0⟩ hW (fun v1 hG1 hV1=>?_) [(decide ((j:Int) < n),true),(decide ((0:Int)≤j),true),(decide ((j:Int) < n),true)] ⟨by simpa using hj,by simp,by simpa using hj,trivial⟩ (by kernel_rfl) rfl f1 f2
 obtain ⟨A',c',hA',_,hat⟩:=(hI.2.2.2.2.1.kept hG1 (by decide)).at47
 simp only [Value.slice.injEq] at hA'
 obtain ⟨hA1,_,hA2⟩:=hA'
 subst hA1 hA2
 obtain ⟨ad,hsome,q0,q1⟩:=hat j (by omega)
 cases hsome
 rw [hst] at q0 q1
 refine go_loadA 47 (.tmp 31) (A.add ((j:Int).toNat*2)) [x,o1 (sV key)] [⟨45,B45 lo up hl hu⟩] f3 f4 (by kernel_rfl) (by kernel_rfl) hV1 f5 ?_ (fun hV2=>hk v1 hG1 hV2)
 intro i y hy
 match i,hy with
 |0,hy=>cases hy;rw [show ∀ a:Addr,a.add 0=a by intro a;simp [Addr.add],hx];exact q0
 |1,hy=>cases hy;exact q1
end
theorem mwR [Bd] (lb:Nat) (lo up:ByteArray) (hl hu:Bool) (A:Addr) (n c:Nat) (steps:List S47) (G:List S36) (R:Option Nat→World→Prop) (hit:ItOK lb G (opt hl lo) (opt hu up) R) (lv uv:V1) (bb:Nat) (w0:World) (hbn:Bnds lo up hl hu G) (hn:n < 2^30) (hln:steps.length=n) {Q:Exit→Act→World→Prop} (m j:Nat) (hj:j < n) (hm:m+j=n) (xs:Nat→Value) (ov:V1) (hop0:0≤(steps[j]'(by omega)).f0) (w:World) (hI:I24 lb lo up hl hu A n c steps G R lv uv ov w0 j w) (hW:Wk [bb] (bodyS (S24 lb lo up hl hu A n c lv uv) (Hand (J24 lb lo up hl hu A n c steps G R lv uv bb w0) m) (T24 lb A n c (o1 lv) (o1 uv) ov (posP G steps j).isSome j xs) [⟨45,B45 lo up hl hu⟩]) w):
  kx Tryz.prog Q (bodyS (S24 lb lo up hl hu A n c lv uv) (Hand (J24 lb lo up hl hu A n c steps G R lv uv bb w0) m) (T24 lb A n c (o1 lv) (o1 uv) ov (posP G steps j).isSome j xs) [⟨45,B45 lo up hl hu⟩]).K .normal (actS [bb] (bodyS (S24 lb lo up hl hu A n c lv uv) (Hand (J24 lb lo up hl hu A n c steps G R lv uv bb w0) m) (T24 lb A n c (o1 lv) (o1 uv) ov (posP G steps j).isSome j xs) [⟨45,B45 lo up hl hu⟩]).T) w:=by
 obtain ⟨op,key,hst⟩: ∃ op key,steps[j]'(hln.symm ▸ hj)=⟨op,key⟩:=⟨_,_,rfl⟩
 have hop0:0≤op:=by rw [hst] at hop0;exact hop0
 have hps:=posP_succ G steps j (by omega)
 rw [hst] at hps
 by_cases p0:op=0
 ·subst p0
  cases hcase:opt hl lo with
  |none=>
   have hx0:RdO w lv.1 none:=by rw [←hcase];exact hI.2.2.1
   obtain ⟨lv,hv1⟩:=lv
   obtain rfl:lv=.slice none 0 0:=hx0
   refine go_reT (T24 lb A n c .ns (o1 uv) ov (posP G steps j).isSome j xs) (by kernel_rfl) hW (fun hW=>?_)
   refine p24 (.it .u8 _) rfl hln hj hI hst hW fun v1 hE1 hV1=>?_
   refine gr2 (bs:=[bb]) 200 ⟨[],1,[],[],0⟩ hV1 fun sb vb v3 _ hK3 hV3=>?_
   exact tG hit hn hln hj hm hI hst 240 [.ptr ⟨lb,0,none⟩] (by omega) hV3 (hE1.trans hK3) (o:=inx G 0) (by rw [hps];rfl) (fun hR=>hit.fst hcase _ v3 hR) (by kernel_rfl) (by kernel_rfl) ⟨⟨by kernel_rfl,by kernel_rfl,fun _=>by kernel_rfl,by kernel_rfl,by kernel_rfl,fun _=>by kernel_rfl⟩,fun _ _=>⟨by kernel_rfl,by kernel_rfl,fun _=>by kernel_rfl,by kernel_rfl,by kernel_rfl,fun _=>by kernel_rfl⟩⟩
  |some lk=>
   have hx0:RdS w lv.1 lk:=(show RdO w lv.1 (some lk) by rw [←hcase];exact hI.2.2.1)
   have hx1:=hx0
   obtain ⟨lv,hv1⟩:=lv
   obtain ⟨kb,ko,kc,_,_,hkv,_⟩:=hx0
   obtain rfl:lv=_:=hkv
   refine go_reT (T24 lb A n c (.sl ⟨kb,ko,none⟩ lk.length kc) (o1 uv) ov (posP G steps j).isSome j xs) (by kernel_rfl) hW (fun hW=>?_)
   refine p24 (.it .u8 _) rfl hln hj hI hst hW fun v1 hE1 hV1=>?_
   refine gr2 (bs:=[bb]) 200 ⟨[],1,[],[],0⟩ hV1 fun sb vb v3 _ hK3 hV3=>?_
   exact tG hit hn hln hj hm hI hst 245 [.ptr ⟨lb,0,none⟩,.sl ⟨kb,ko,none⟩ lk.length kc,.it .u8 0] (by omega) hV3 (hE1.trans hK3) (o:=geP G lk) (by rw [hps];unfold geP;rw [(hbn.lo0 lk hcase).1];rfl) (fun hR=>hit.ge _ v3 ⟨.slice (some ⟨kb,ko,none⟩) lk.length kc,hv1⟩ lk hR (hx1.kept (hE1.trans hK3) (by simp)) (hbn.lo0 lk hcase).2) (by kernel_rfl) (by kernel_rfl) ⟨⟨by kernel_rfl,by kernel_rfl,fun _=>by kernel_rfl,by kernel_rfl,by kernel_rfl,fun _=>by kernel_rfl⟩,fun _ _=>⟨by kernel_rfl,by kernel_rfl,fun _=>by kernel_rfl,by kernel_rfl,by kernel_rfl,fun _=>by kernel_rfl⟩⟩
 by_cases p1:op=1
 ·subst p1
  cases hcase:opt hu up with
  |none=>
   have hx0:RdO w uv.1 none:=by rw [←hcase];exact hI.2.2.2.1
   obtain ⟨uv,hv1⟩:=uv
   obtain rfl:uv=.slice none 0 0:=hx0
   refine go_reT (T24 lb A n c (o1 lv) .ns ov (posP G steps j).isSome j xs) (by kernel_rfl) hW (fun hW=>?_)
   refine p24 (.it .u8 _) rfl hln hj hI hst hW fun v1 hE1 hV1=>?_
   refine gr2 (bs:=[bb]) 200 ⟨[],1,[],[],0⟩ hV1 fun sb vb v3 _ hK3 hV3=>?_
   exact tG hit hn hln hj hm hI hst 241 [.ptr ⟨lb,0,none⟩] (by omega) hV3 (hE1.trans hK3) (o:=lastP G) (by rw [hps];rfl) (fun hR=>hit.lst hcase _ v3 hR) (by kernel_rfl) (by kernel_rfl) ⟨⟨by kernel_rfl,by kernel_rfl,fun _=>by kernel_rfl,by kernel_rfl,by kernel_rfl,fun _=>by kernel_rfl⟩,fun _ _=>⟨by kernel_rfl,by kernel_rfl,fun _=>by kernel_rfl,by kernel_rfl,by kernel_rfl,fun _=>by kernel_rfl⟩⟩
  |some lk=>
   have hx0:RdS w uv.1 lk:=(show RdO w uv.1 (some lk) by rw [←hcase];exact hI.2.2.2.1)
   have hx1:=hx0
   obtain ⟨uv,hv1⟩:=uv
   obtain ⟨kb,ko,kc,_,_,hkv,_⟩:=hx0
   obtain rfl:uv=_:=hkv
   refine go_reT (T24 lb A n c (o1 lv) (.sl ⟨kb,ko,none⟩ lk.length kc) ov (posP G steps j).isSome j xs) (by kernel_rfl) hW (fun hW=>?_)
   refine p24 (.it .u8 _) rfl hln hj hI hst hW fun v1 hE1 hV1=>?_
   refine gr2 (bs:=[bb]) 200 ⟨[],1,[],[],0⟩ hV1 fun sb vb v3 _ hK3 hV3=>?_
   exact tG hit hn hln hj hm hI hst 246 [.ptr ⟨lb,0,none⟩,.sl ⟨kb,ko,none⟩ lk.length kc,.it .u8 0] (by omega) hV3 (hE1.trans hK3) (o:=ltP G lk) (by rw [hps];unfold ltP;rw [(hbn.up0 lk hcase).1];rfl) (fun hR=>hit.lt _ v3 ⟨.slice (some ⟨kb,ko,none⟩) lk.length kc,hv1⟩ lk hR (hx1.kept (hE1.trans hK3) (by simp)) (hbn.up0 lk hcase).2) (by kernel_rfl) (by kernel_rfl) ⟨⟨by kernel_rfl,by kernel_rfl,fun _=>by kernel_rfl,by kernel_rfl,by kernel_rfl,fun _=>by kernel_rfl⟩,fun _ _=>⟨by kernel_rfl,by kernel_rfl,fun _=>by kernel_rfl,by kernel_rfl,by kernel_rfl,fun _=>by kernel_rfl⟩⟩
 by_cases p4:op=4∨op=5
 ·let nm := if op = 4 then "SeekGE" else "SeekLT"
  let t1:=if op=4 then 68 else 82
  let t2:=if op=4 then 73 else 87
  let f:=if op=4 then 245 else 246
  let W:=TL.bs (wkey lo up hl hu key)
  let o:=if op=4 then geP G W else ltP G W
  have h5:op≤5:=by omega
  have hpo:posP G steps (j+1)=o:=by
   rcases p4 with rfl|rfl
   ·rw [hps];show geP G (TL.bs key)=geP G W;unfold geP;rw [(hbn.key key).1]
   ·rw [hps];show ltP G (TL.bs key)=ltP G W;unfold ltP;rw [(hbn.key key).1]
  have hcon: ∀ v (kv:V1),R (posP G steps j) v→RdS v kv.1 W→Calls Tryz.prog f #[.pointer (some ⟨lb,0,none⟩),kv.1,.int .u8 0] v (ARes R G o v):=fun v kv hR hkv=>by
   rcases p4 with rfl|rfl
   ·exact hit.ge _ v kv W hR hkv (hbn.key key).2
   ·exact hit.lt _ v kv W hR hkv (hbn.key key).2
  refine p24 (.it .u8 _) rfl hln hj hI hst hW fun v1 hE1 hV1=>?_
  let op':=op
  rcases p4 with rfl|rfl
  all_goals
   refine gr2 (bs:=[bb]) 200 ⟨[],1,[],[],0⟩ hV1 fun sb vb v3 _ hK3 hV3=>?_
   refine gd [330,266] [] hV3 (fun hD=>?_)
   refine gr0 (bs:=[bb,sb,vb]) 200 ⟨[],3,[],[],0⟩ hD fun v6 hG6 hV6=>?_
   refine go_hoist 5 (.makeFunc (.method nm) #[.tmp t1] #[]) [330,266] v3.drew (.oc (.func (.method nm) #[.iface 236 (.pointer (some ⟨lb,0,none⟩))] #[]) rfl) (H24x lo up hl hu op' key) (by kernel_rfl) (by kernel_rfl) hV6 (by kernel_rfl) (fun w' _ o ho=>run_mkMeth lb t1 nm (by kernel_rfl) o ho w') (fun hV7=>?_)
   refine go_hoist 6 (.nilCheck (.tmp t2)) [330,266] v3.drew (.oc (.func (.method nm) #[.iface 236 (.pointer (some ⟨lb,0,none⟩))] #[]) rfl) (H24x lo up hl hu op' key) (by kernel_rfl) (by kernel_rfl) hV7 (by kernel_rfl) (fun w' _ o ho=>run_nilMeth lb t2 nm (fun w=>by kernel_rfl) (by kernel_rfl) o ho w') (fun hV8=>?_)
   refine gr0 (bs:=[bb,sb,vb]) 200 ⟨[],3,[],[],0⟩ hV8 fun v9 hG9 hV9=>?_
   have hs9:=hV9.sq (H24x lo up hl hu op' key)
   refine gcd 73 [.agg (B45 lo up hl hu),o1 (sV key)] [330,266] v3.drew hV9 (fun hC=>?_)
   refine (c73 lo up hl hu key v9).mono ?_
   rintro e v10 ⟨kv,rfl,hkv,hG10⟩
   refine ⟨.oc kv (rdS_one hkv),[],H24x lo up hl hu op' key,rfl,hs9.kq hG10,hC.trans (hG10.mono (by simp)),fun hV10=>?_⟩
   refine gr0 (bs:=[bb,sb,vb]) 200 ⟨[],3,[],[],0⟩ hV10 fun v11 hG11 hV11=>?_
   have hs11:=hV11.sq (H24x lo up hl hu op' key)
   have hE11:Ext w v11:=hE1.trans (hK3.trans (((Kept.refl [] v3).drew).trans (hG6.trans (hG9.trans (hG10.trans hG11)))))
   refine gcd f [.ptr ⟨lb,0,none⟩,o1 ⟨kv,rdS_one hkv⟩,.it .u8 0] [330,266] v3.drew hV11 (fun hC=>?_)
   refine (hcon v11 ⟨kv,rdS_one hkv⟩ (hit.kept _ _ _ hI.1 (hE11.mono (by simp))) (hkv.kept hG11 (by simp))).mono ?_
   rintro e w4 ⟨⟨v,rfl,hres⟩,hK4,hR4⟩
   have hs4:=hs11.kq hK4
   obtain ⟨x,e1,h3⟩:=tR hit hn hln hj hm hI hst (v3:=v11) (Q:=Q) h5 hs4 (hE11.tr hK4 (ts:=[330,266,224])) hpo hres hR4 ⟨⟨by kernel_rfl,by kernel_rfl,fun _=>by kernel_rfl,by kernel_rfl,by kernel_rfl,fun _=>by kernel_rfl⟩,fun _ _=>⟨by kernel_rfl,by kernel_rfl,fun _=>by kernel_rfl,by kernel_rfl,by kernel_rfl,fun _=>by kernel_rfl⟩⟩
   exact ⟨x,[],_,by rw [e1];rfl,hs4,hC.trans (hK4.mono (by simp)),h3⟩
 by_cases p2:op=2
 ·subst p2
  rcases Option.eq_none_or_eq_some (posP G steps j) with hpos|⟨i0,hpos⟩
  ·refine go_reT (T24 lb A n c (o1 lv) (o1 uv) ov false j xs) (by rw [hpos];kernel_rfl) hW (fun hW=>?_)
   refine p24 (.it .u8 _) rfl hln hj hI hst hW fun v1 hE1 hV1=>?_
   refine gr2 (bs:=[bb]) 200 ⟨[],1,[],[],0⟩ hV1 fun sb vb v3 _ hK3 hV3=>?_
   have hE3:=hE1.trans hK3
   refine go_cutD (KX (K24 lb lo up hl hu A n c lv uv (Hand (J24 lb lo up hl hu A n c steps G R lv uv bb w0) m))) 172 ((113,o1 ov)::(114,ze36)::keep24 lb A n c (o1 lv) (o1 uv) ov false j) (H24 lo up hl hu ⟨2,key⟩ nsV npV) (by kernel_rfl) (by kernel_rfl) (by kernel_rfl) hV3 (hV3.sq _) (fun xs2 hcut=>?_)
   have hpX:posP G steps (j+1)=none:=by rw [hps,hpos];rfl
   exact mwX lb lo up hl hu A n c steps G R hit _ _ bb w0 hn hln m j hj hm xs2 ov false ⟨2,key⟩ nsV npV sb vb v3 (E24.mk' hI (hE3.mono (by simp)) (by rw [hpX, ←hpos];exact hit.kept _ _ _ hI.1 (hE3.mono (by simp)))) (outP_none (by rw [hst, ←hps,hpX])) (by rw [hpX];rfl) hcut
  ·refine go_reT (T24 lb A n c (o1 lv) (o1 uv) ov true j xs) (by rw [hpos];kernel_rfl) hW (fun hW=>?_)
   refine p24 (.it .u8 _) rfl hln hj hI hst hW fun v1 hE1 hV1=>?_
   refine gr2 (bs:=[bb]) 200 ⟨[],1,[],[],0⟩ hV1 fun sb vb v3 _ hK3 hV3=>?_
   exact tG hit hn hln hj hm hI hst 242 [.ptr ⟨lb,0,none⟩] (by omega) hV3 (hE1.trans hK3) (o:=nxP G i0) (by rw [hps,hpos];rfl) (fun hR=>hit.nxt i0 v3 (by rw [←hpos];exact hR)) (by kernel_rfl) (by kernel_rfl) ⟨⟨by kernel_rfl,by kernel_rfl,fun _=>by kernel_rfl,by kernel_rfl,by kernel_rfl,fun _=>by kernel_rfl⟩,fun _ _=>⟨by kernel_rfl,by kernel_rfl,fun _=>by kernel_rfl,by kernel_rfl,by kernel_rfl,fun _=>by kernel_rfl⟩⟩
 by_cases p3:op=3
 ·subst p3
  rcases Option.eq_none_or_eq_some (posP G steps j) with hpos|⟨i0,hpos⟩
  ·refine go_reT (T24 lb A n c (o1 lv) (o1 uv) ov false j xs) (by rw [hpos];kernel_rfl) hW (fun hW=>?_)
   refine p24 (.it .u8 _) rfl hln hj hI hst hW fun v1 hE1 hV1=>?_
   refine gr2 (bs:=[bb]) 200 ⟨[],1,[],[],0⟩ hV1 fun sb vb v3 _ hK3 hV3=>?_
   have hE3:=hE1.trans hK3
   refine go_cutD (KX (K24 lb lo up hl hu A n c lv uv (Hand (J24 lb lo up hl hu A n c steps G R lv uv bb w0) m))) 172 ((113,o1 ov)::(114,ze36)::keep24 lb A n c (o1 lv) (o1 uv) ov false j) (H24 lo up hl hu ⟨3,key⟩ nsV npV) (by kernel_rfl) (by kernel_rfl) (by kernel_rfl) hV3 (hV3.sq _) (fun xs2 hcut=>?_)
   have hpX:posP G steps (j+1)=none:=by rw [hps,hpos];rfl
   exact mwX lb lo up hl hu A n c steps G R hit _ _ bb w0 hn hln m j hj hm xs2 ov false ⟨3,key⟩ nsV npV sb vb v3 (E24.mk' hI (hE3.mono (by simp)) (by rw [hpX, ←hpos];exact hit.kept _ _ _ hI.1 (hE3.mono (by simp)))) (outP_none (by rw [hst, ←hps,hpX])) (by rw [hpX];rfl) hcut
  ·refine go_reT (T24 lb A n c (o1 lv) (o1 uv) ov true j xs) (by rw [hpos];kernel_rfl) hW (fun hW=>?_)
   refine p24 (.it .u8 _) rfl hln hj hI hst hW fun v1 hE1 hV1=>?_
   refine gr2 (bs:=[bb]) 200 ⟨[],1,[],[],0⟩ hV1 fun sb vb v3 _ hK3 hV3=>?_
   exact tG hit hn hln hj hm hI hst 244 [.ptr ⟨lb,0,none⟩] (by omega) hV3 (hE1.trans hK3) (o:=prevP i0) (by rw [hps,hpos];rfl) (fun hR=>hit.prv i0 v3 (by rw [←hpos];exact hR)) (by kernel_rfl) (by kernel_rfl) ⟨⟨by kernel_rfl,by kernel_rfl,fun _=>by kernel_rfl,by kernel_rfl,by kernel_rfl,fun _=>by kernel_rfl⟩,fun _ _=>⟨by kernel_rfl,by kernel_rfl,fun _=>by kernel_rfl,by kernel_rfl,by kernel_rfl,fun _=>by kernel_rfl⟩⟩
 have h6:5 < op:=by omega
 refine p24 (.si .u8 op) rfl hln hj hI hst hW fun v1 hE1 hV1=>?_
 refine gr2 (bs:=[bb]) 200 ⟨[],1,[],[(36,false),(51,false),(66,false),(80,false),(94,false),(103,false)],0⟩ hV1 (fun sb vb v3 _ hK3 hV3=>?_) [(decide (op=(0:Int)),false),(decide (op=(1:Int)),false),(decide (op=(4:Int)),false),(decide (op=(5:Int)),false),(decide (op=(2:Int)),false),(decide (op=(3:Int)),false)] ⟨decide_eq_false p0,decide_eq_false p1,decide_eq_false (by omega),decide_eq_false (by omega),decide_eq_false p2,decide_eq_false p3,trivial⟩
 have hE3:=hE1.trans hK3
 have hpX:posP G steps (j+1)=posP G steps j:=by rw [hps,stepP,if_neg p0,if_neg p1,if_neg (show ¬ op=4 by omega),if_neg (show ¬ op=5 by omega),if_neg p2,if_neg p3]
 refine go_cutD (KX (K24 lb lo up hl hu A n c lv uv (Hand (J24 lb lo up hl hu A n c steps G R lv uv bb w0) m))) 172 ((113,o1 ov)::(114,ze36)::keep24 lb A n c (o1 lv) (o1 uv) ov (posP G steps j).isSome j) (H24 lo up hl hu ⟨op,key⟩ nsV npV) (by kernel_rfl) (by kernel_rfl) (by kernel_rfl) hV3 (hV3.sq _) (fun xs2 hcut=>?_)
 exact mwX lb lo up hl hu A n c steps G R hit _ _ bb w0 hn hln m j hj hm xs2 ov (posP G steps j).isSome ⟨op,key⟩ nsV npV sb vb v3 (E24.mk' hI (hE3.mono (by simp)) (by rw [hpX];exact hit.kept _ _ _ hI.1 (hE3.mono (by simp)))) (by rw [hst];unfold outP;rw [if_pos h6]) (by rw [hpX]) hcut
theorem c24 [Bd] (lb:Nat) (lo up:ByteArray) (hl hu:Bool) (A:Addr) (n c:Nat) (steps:List S47) (G:List S36) (R:Option Nat→World→Prop) (hit:ItOK lb G (opt hl lo) (opt hu up) R) (w:World) (hbn:Bnds lo up hl hu G) (hop0: ∀ s∈steps,0≤s.f0) (hR:R none w) (hst:RK k47 47 w (.slice (some A) n c) steps) (hln:steps.length=n) (hn:n < 2^30) (hB0:autoParam (Bd.B≤w.heap.size) sz0._auto_1):
  Calls Tryz.prog 24 #[.iface 236 (.pointer (some ⟨lb,0,none⟩)),.agg #[.string lo,.bool hl,.string up,.bool hu],.bool true,.slice (some A) n c] w fun e w'=> ∃ v,e=.returned (.tuple #[v,.bool true])∧w'.ownsRow Bd.B 50 4 v n ((walkP G none steps).flatMap cells50)∧Kept [330,266,224,50] w w':=by
 refine gs (bs:=[]) [.ifc 236 (.ptr ⟨lb,0,none⟩),.agg (B45 lo up hl hu),.bl true,.sl A n c] [] Tryz.func24 (sat0 w) (fun hW=>?_)
 refine gr1 200 ⟨[],0,[],[],0⟩ hW fun bb w1 _ hE1 hW1=>?_
 have hs1:=hW1.sq [⟨45,B45 lo up hl hu⟩]
 refine gc 20 [.agg (B45 lo up hl hu)] hW1 ?_
 refine (c20 lo up hl hu w1).mono ?_
 rintro e w2 ⟨v1,v2,rfl,hr1,hr2,hE2⟩
 refine ⟨.tup [o1 ⟨v1,rdO_one hr1⟩,o1 ⟨v2,rdO_one hr2⟩],[],[⟨45,B45 lo up hl hu⟩],rfl,hs1.kq hE2,fun hW2=>?_⟩
 refine gr0 (bs:=[bb]) 200 ⟨[],1,[],[],0⟩ hW2 fun w3 hE3 hW3=>?_
 generalize hlv:(⟨v1,rdO_one hr1⟩:V1)=lv at *
 generalize huv:(⟨v2,rdO_one hr2⟩:V1)=uv at *
 have hr1':RdO w3 lv.1 (opt hl lo):=by rw [←hlv];exact hr1.kept hE3 (by simp)
 have hr2':RdO w3 uv.1 (opt hu up):=by rw [←huv];exact hr2.kept hE3 (by simp)
 clear hr1 hr2 hlv huv
 have hEx:Ext w w3:=hE1.trans (hE2.trans hE3)
 refine go_loop (s:=S24 lb lo up hl hu A n c lv uv) (bs:=[bb]) (J24 lb lo up hl hu A n c steps G R lv uv bb w) n (by kernel_rfl) hW3 (fun xs=>T24 lb A n c (o1 lv) (o1 uv) nilV false 0 xs) [⟨45,B45 lo up hl hu⟩] (by kernel_rfl) (by kernel_rfl) ?_ ?_ ?_
 ·intro xs
  refine ⟨0,xs,nilV,by omega,by omega,rfl,rfl,rfl,hit.kept _ _ _ hR (hEx.mono (by simp)),World.ownsRow_nil _ _ _ _,hr1',hr2',hst.kept hEx (by simp),hEx.mono (by simp)⟩
 ·rintro m bs' T H w' ⟨j,xs,ov,_,_,rfl,_⟩
  exact ⟨[],rfl⟩
 ·rintro m bs' T H w' ⟨j,xs,ov,hj,hm,rfl,rfl,rfl,hI⟩ hW'
  by_cases hlt:j < n
  ·exact mwR lb lo up hl hu A n c steps G R hit lv uv bb w hbn (by omega) hln m j hlt hm xs ov (hop0 _ (List.getElem_mem _)) w' hI hW'
  ·obtain rfl:n=j:=by omega
   refine go_run (s:=bodyS (S24 lb lo up hl hu A n c lv uv) (Hand (J24 lb lo up hl hu A n c steps G R lv uv bb w) m) (T24 lb A n c (o1 lv) (o1 uv) ov (posP G steps n).isSome n xs) [⟨45,B45 lo up hl hu⟩]) (bs:=[bb]) 200 ⟨[],1,[],[(30,false)],0⟩ (by kernel_rfl) hW' rfl [(decide ((n:Int) < n),false)] (by kernel_rfl) ⟨by simp,trivial⟩ ?_
   intro nw v1 _ hG1 hV1
   obtain rfl:=nw0 (hV1.num 1 (by kernel_rfl)) rfl
   refine gd [] [] hV1 (fun hD=>?_)
   refine gr0 (bs:=[bb]) 200 ⟨[],1,[],[],0⟩ hD fun v2 hG2 hV2=>?_
   have hs2:=hV2.sq [⟨45,B45 lo up hl hu⟩]
   have hE2:Ext w' v2:=hG1.trans (((Kept.refl [] v1).drew).trans hG2)
   refine gcd 239 [.ptr ⟨lb,0,none⟩] [] v1.drew hV2 (fun hC=>?_)
   refine (hit.err _ v2 (hit.kept _ _ _ hI.1 (hE2.mono (by simp)))).mono ?_
   rintro e v3 ⟨rfl,hG3⟩
   refine ⟨.ni,[],_,rfl,hs2.kq hG3,hC.trans hG3,fun hV3=>?_⟩
   refine gr0 (bs:=[bb]) 200 ⟨[],1,[],[],0⟩ hV3 fun v4 hG4 hV4=>?_
   have hE4:Ext w' v4:=hE2.trans (hG3.trans hG4)
   refine gt (.tup [o1 ov,.bl true]) hV4.sat ⟨ov.1,rfl,?_,hI.2.2.2.2.2.trans (hE4.mono (by simp))⟩
   have h:=own_kept hI.2.1 hE4 (by simp)
   rwa [List.take_of_length_le (by omega)] at h
theorem c24_0 [Bd] (lb:Nat) (lo up:ByteArray) (hl hu:Bool) (G:List S36) (R:Option Nat→World→Prop) (hit:ItOK lb G (opt hl lo) (opt hu up) R) (w:World) (hR:R none w) (hB0:autoParam (Bd.B≤w.heap.size) sz0._auto_1):
  Calls Tryz.prog 24 #[.iface 236 (.pointer (some ⟨lb,0,none⟩)),.agg #[.string lo,.bool hl,.string up,.bool hu],.bool true,.slice none 0 0] w fun e w'=>e=.returned (.tuple #[.slice none 0 0,.bool true])∧Ext w w':=by
 refine gs (bs:=[]) [.ifc 236 (.ptr ⟨lb,0,none⟩),.agg (B45 lo up hl hu),.bl true,.ns] [] Tryz.func24 (sat0 w) (fun hW=>?_)
 refine gr1 200 ⟨[],0,[],[],1⟩ hW fun bb w1 _ hE1 hW1=>?_
 have hs1:=hW1.sq [⟨45,B45 lo up hl hu⟩]
 refine gc 20 [.agg (B45 lo up hl hu)] hW1 ?_
 refine (c20 lo up hl hu w1).mono ?_
 rintro e w2 ⟨v1,v2,rfl,hr1,hr2,hE2⟩
 refine ⟨.tup [o1 ⟨v1,rdO_one hr1⟩,o1 ⟨v2,rdO_one hr2⟩],[],[⟨45,B45 lo up hl hu⟩],rfl,hs1.kq hE2,fun hW2=>?_⟩
 refine gr0 (bs:=[bb]) 200 ⟨[],1,[],[],1⟩ hW2 fun v1 hG1 hV1=>?_
 refine gd [] [] hV1 (fun hD=>?_)
 refine gr0 (bs:=[bb]) 200 ⟨[],1,[],[],0⟩ hD fun v2 hG2 hV2=>?_
 have hs2:=hV2.sq [⟨45,B45 lo up hl hu⟩]
 have hE2':Ext w v2:=hE1.trans (hE2.trans (hG1.trans (((Kept.refl [] v1).drew).trans hG2)))
 refine gcd 239 [.ptr ⟨lb,0,none⟩] [] v1.drew hV2 (fun hC=>?_)
 refine (hit.err _ v2 (hit.kept _ _ _ hR (hE2'.mono (by simp)))).mono ?_
 rintro e v3 ⟨rfl,hG3⟩
 refine ⟨.ni,[],_,rfl,hs2.kq hG3,hC.trans hG3,fun hV3=>?_⟩
 refine gr0 (bs:=[bb]) 200 ⟨[],1,[],[],0⟩ hV3 fun v4 hG4 hV4=>?_
 exact gt (.tup [.ns,.bl true]) hV4.sat ⟨rfl,hE2'.trans (hG3.trans hG4)⟩
end Go.Proofs.YtghppnklhbbffaaGreatDoor.X
namespace Go.Proofs.YtghppnklhbbffaaGreatDoor.X
open Go Go.RowKit Go.Proofs.YtghppnklhbbffaaGreatDoor.TL Go.Proofs.YtghppnklhbbffaaGreatDoor.PFnTreeLevel
abbrev cb:=Lib.compareBytes
abbrev Ky (x:S36):List UInt8:=TL.bs x.f0
def flatP (n:Nat) (P:Nat→List S36):List S36:=(List.range n).flatMap P
def offP (P:Nat→List S36) (i:Nat):Nat:=(flatP i P).length
theorem flat_succ [Bd] (n:Nat) (P:Nat→List S36):flatP (n+1) P=flatP n P++P n:=by
 unfold flatP;rw [List.range_succ,List.flatMap_append];simp
theorem off_succ [Bd] (P:Nat→List S36) (i:Nat):offP P (i+1)=offP P i+(P i).length:=by
 unfold offP;rw [flat_succ,List.length_append]
theorem off_mono [Bd] (P:Nat→List S36) {i j:Nat} (h:i≤j):offP P i≤offP P j:=by
 induction j with
 |zero=>obtain rfl:i=0:=by omega
        exact Nat.le_refl _
 |succ j ih=>
  rcases Nat.lt_or_ge i (j+1) with h'|h'
  ·have:=ih (by omega);rw [off_succ];omega
  ·obtain rfl:i=j+1:=by omega
   exact Nat.le_refl _
theorem flat_get [Bd] (P:Nat→List S36): ∀ (n i p:Nat) (_:i < n) (h:p < (P i).length),(flatP n P)[offP P i+p]? =some (P i)[p]
 |0,_,_,hi,_=>by omega
 |n+1,i,p,hi,h=>by
  rw [flat_succ]
  by_cases hin:i < n
  ·have h1:=off_mono P (show i+1≤n by omega)
   rw [off_succ] at h1
   rw [List.getElem?_append_left (by unfold offP at h1 ⊢; omega)]
   exact flat_get P n i p hin h
  ·obtain rfl:i=n:=by omega
   rw [List.getElem?_append_right (by unfold offP;omega)]
   have:offP P i+p - (flatP i P).length=p:=by unfold offP;omega
   rw [this,List.getElem?_eq_getElem h]
theorem off_inv [Bd] (P:Nat→List S36): ∀ (n x:Nat),x < offP P n→ ∃ i p,i < n∧p < (P i).length∧x=offP P i+p
 |0,x,h=>by unfold offP flatP at h;simp at h
 |n+1,x,h=>by
  rw [off_succ] at h
  by_cases hx:x < offP P n
  ·obtain ⟨i,p,h1,h2,h3⟩:=off_inv P n x hx
   exact ⟨i,p,by omega,h2,h3⟩
  ·exact ⟨n,x - offP P n,by omega,by omega,by omega⟩
theorem cb_ge [Bd] {a b:List UInt8}: ¬ cb a b < 0↔cb b a≤0:=by
 have h:=cb_anti a b
 show ¬ Lib.compareBytes a b < 0↔Lib.compareBytes b a≤0
 omega
theorem cb_le_lt [Bd] {a b:List UInt8}:cb a b≤0↔ ¬ cb b a < 0:=cb_ge.symm
structure Lay (n:Nat) (P:Nat→List S36) (sm lg:Nat→List UInt8) (lo up:Option (List UInt8)):Prop where
 pos: ∀ i,i < n→0 < (P i).length
 sm: ∀ i (hi:i < n), ∃ x,(P i)[0]? =some x∧sm i=Ky x
 lg: ∀ i (hi:i < n), ∃ x,(P i)[(P i).length - 1]? =some x∧lg i=Ky x
 sorted: ∀ (i j:Nat) (x y:S36),i≤j→(flatP n P)[i]? =some x→(flatP n P)[j]? =some y→cb (Ky x) (Ky y)≤0
 lu: ∀ l u,lo=some l→up=some u→cb l u≤0
def lowN (F:List S36) (lo:Option (List UInt8)):Nat:=match lo with
 |none=>0
 |some l=>lSeek F l
def uppN (F:List S36) (up:Option (List UInt8)):Nat:=match up with
 |none=>F.length
 |some u=>lSeek F u
def cutG (F:List S36) (lo up:Option (List UInt8)):List S36:=(F.take (uppN F up)).drop (lowN F lo)
theorem lSeek_uniq [Bd] {G:List S36} {key:List UInt8} {m:Nat} (hm:m≤G.length) (h: ∀ (g:Nat) (x:S36),G[g]? =some x→(g < m↔cb (Ky x) key < 0)):lSeek G key=m:=by
 have hle:=lSeek_le G key
 rcases Nat.lt_trichotomy (lSeek G key) m with h1|h1|h1
 ·have h2:=lSeek_ge G key (by omega)
  have h3:=(h (lSeek G key) _ (List.getElem?_eq_getElem (by omega))).1 h1
  exact absurd h3 h2
 ·exact h1
 ·have h2:=lSeek_lt G key m h1 (by omega)
  have h3:=(h m _ (List.getElem?_eq_getElem (by omega))).2 h2
  omega
section
variable {n:Nat} {P:Nat→List S36} {sm lg:Nat→List UInt8} {lo up:Option (List UInt8)}
theorem Lay.seek [Bd] (L:Lay n P sm lg lo up) (key:List UInt8) {x:Nat} {e:S36} (he:(flatP n P)[x]? =some e):x < lSeek (flatP n P) key↔cb (Ky e) key < 0:=by
 have hlt:=(List.getElem?_eq_some_iff.1 he).1
 constructor
 ·intro h
  have:=lSeek_lt _ key x h hlt
  rw [(List.getElem?_eq_some_iff.1 he).2] at this
  exact this
 ·intro h
  rcases Nat.lt_or_ge x (lSeek (flatP n P) key) with h1|h1
  ·exact h1
  ·exfalso
   have h2:=lSeek_ge _ key (by omega:lSeek (flatP n P) key < (flatP n P).length)
   have h3:=L.sorted _ x _ e h1 (List.getElem?_eq_getElem (by omega)) he
   exact h2 (cb_trans_lt' _ _ _ h3 h)
theorem Lay.low [Bd] (L:Lay n P sm lg lo up) {x:Nat} {e:S36} (he:(flatP n P)[x]? =some e):x < lowN (flatP n P) lo↔ ∃ l,lo=some l∧cb (Ky e) l < 0:=by
 cases lo with
 |none=>unfold lowN;simp
 |some l=>
  show x < lSeek (flatP n P) l↔_
  rw [L.seek l he]
  exact ⟨fun h=>⟨l,rfl,h⟩,fun ⟨l',h1,h2⟩=>by cases h1;exact h2⟩
theorem Lay.upp [Bd] (L:Lay n P sm lg lo up) {x:Nat} {e:S36} (he:(flatP n P)[x]? =some e):x < uppN (flatP n P) up↔ ¬ ∃ u,up=some u∧cb u (Ky e)≤0:=by
 have hlt:=(List.getElem?_eq_some_iff.1 he).1
 cases up with
 |none=>unfold uppN;simp [hlt]
 |some u=>
  show x < lSeek (flatP n P) u↔_
  rw [L.seek u he]
  constructor
  ·rintro h ⟨u',h1,h2⟩;cases h1;exact (cb_le_lt.1 h2) h
  ·intro h
   by_cases h3:cb (Ky e) u < 0
   ·exact h3
   ·exact absurd ⟨u,rfl,cb_ge.1 h3⟩ h
theorem low_le [Bd] (F:List S36) (lo:Option (List UInt8)):lowN F lo≤F.length:=by
 unfold lowN;split
 ·omega
 ·exact lSeek_le _ _
theorem upp_le [Bd] (F:List S36) (up:Option (List UInt8)):uppN F up≤F.length:=by
 unfold uppN;split
 ·exact Nat.le_refl _
 ·exact lSeek_le _ _
theorem Lay.low_upp [Bd] (L:Lay n P sm lg lo up):lowN (flatP n P) lo≤uppN (flatP n P) up:=by
 rcases Nat.lt_or_ge (uppN (flatP n P) up) (lowN (flatP n P) lo) with h|h
 ·exfalso
  have hle:=low_le (flatP n P) lo
  have he:=List.getElem?_eq_getElem (show uppN (flatP n P) up < (flatP n P).length by omega)
  obtain ⟨l,h1,h2⟩:=(L.low he).1 h
  have h3:=(not_congr (L.upp he)).1 (Nat.lt_irrefl _)
  apply h3
  rintro ⟨u,h4,h5⟩
  have:=cb_trans_lt _ _ _ h2 (L.lu l u h1 h4)
  exact (cb_le_lt.1 h5) this
 ·exact h
theorem cut_len [Bd] (L:Lay n P sm lg lo up):(cutG (flatP n P) lo up).length=uppN (flatP n P) up - lowN (flatP n P) lo:=by
 unfold cutG
 have:=upp_le (flatP n P) up
 rw [List.length_drop,List.length_take];omega
theorem cut_get [Bd] (F:List S36) (lo up:Option (List UInt8)) (g:Nat) (h:lowN F lo+g < uppN F up):(cutG F lo up)[g]? =F[lowN F lo+g]?:=by
 unfold cutG
 rw [List.getElem?_drop,List.getElem?_take,if_pos h]
theorem cut_getx [Bd] (F:List S36) (lo up:Option (List UInt8)) (g:Nat) (x:S36) (h:(cutG F lo up)[g]? =some x):lowN F lo+g < uppN F up∧F[lowN F lo+g]? =some x:=by
 unfold cutG at h
 rw [List.getElem?_drop,List.getElem?_take] at h
 split at h
 ·exact ⟨by assumption,h⟩
 ·cases h
theorem Lay.seek_low [Bd] (L:Lay n P sm lg lo up) {key:List UInt8} (hk: ∀ l,lo=some l→cb l key≤0):lowN (flatP n P) lo≤lSeek (flatP n P) key:=by
 rcases Nat.lt_or_ge (lSeek (flatP n P) key) (lowN (flatP n P) lo) with h|h
 ·exfalso
  have hle:=low_le (flatP n P) lo
  have he:=List.getElem?_eq_getElem (show lSeek (flatP n P) key < (flatP n P).length by omega)
  obtain ⟨l,h1,h2⟩:=(L.low he).1 h
  exact Nat.lt_irrefl _ ((L.seek key he).2 (cb_trans_lt _ _ _ h2 (hk l h1)))
 ·exact h
theorem Lay.seek_upp [Bd] (L:Lay n P sm lg lo up) {key:List UInt8} (hk: ∀ u,up=some u→cb key u≤0):lSeek (flatP n P) key≤uppN (flatP n P) up:=by
 rcases Nat.lt_or_ge (uppN (flatP n P) up) (lSeek (flatP n P) key) with h|h
 ·exfalso
  have hle:=lSeek_le (flatP n P) key
  have he:=List.getElem?_eq_getElem (show uppN (flatP n P) up < (flatP n P).length by omega)
  have h2:=(L.seek key he).1 h
  apply (not_congr (L.upp he)).1 (Nat.lt_irrefl _)
  rintro ⟨u,h4,h5⟩
  exact (cb_le_lt.1 h5) (cb_trans_lt _ _ _ h2 (hk u h4))
 ·exact h
theorem Lay.seek_cut [Bd] (L:Lay n P sm lg lo up) {key:List UInt8} (hk:inK lo up key):lSeek (cutG (flatP n P) lo up) key=lSeek (flatP n P) key - lowN (flatP n P) lo:=by
 have h1:=L.seek_low hk.1
 have h2:=L.seek_upp hk.2
 refine lSeek_uniq (by rw [cut_len L];omega) (fun g x hg=>?_)
 obtain ⟨h3,h4⟩:=cut_getx _ _ _ _ _ hg
 rw [←L.seek key h4];omega
end
section
variable {n:Nat} {P:Nat→List S36} {sm lg:Nat→List UInt8} {lo up:Option (List UInt8)}
theorem Lay.cut_seek [Bd] (L:Lay n P sm lg lo up) (key:List UInt8) {g:Nat} {x:S36} (hg:(cutG (flatP n P) lo up)[g]? =some x):g < lSeek (cutG (flatP n P) lo up) key↔cb (Ky x) key < 0:=by
 have hlt:=(List.getElem?_eq_some_iff.1 hg).1
 constructor
 ·intro h
  have:=lSeek_lt _ key g h hlt
  rw [(List.getElem?_eq_some_iff.1 hg).2] at this
  exact this
 ·intro h
  rcases Nat.lt_or_ge g (lSeek (cutG (flatP n P) lo up) key) with h1|h1
  ·exact h1
  ·exfalso
   have h2:=lSeek_ge _ key (by omega:lSeek (cutG (flatP n P) lo up) key < (cutG (flatP n P) lo up).length)
   have ha:=cut_getx _ _ _ _ _ hg
   have hb:=cut_getx _ _ _ _ _ (List.getElem?_eq_getElem (show lSeek (cutG (flatP n P) lo up) key < (cutG (flatP n P) lo up).length by omega))
   have h3:=L.sorted _ _ _ x (by omega) hb.2 ha.2
   exact h2 (cb_trans_lt' _ _ _ h3 h)
theorem Lay.cut_in [Bd] (L:Lay n P sm lg lo up) {g:Nat} {x:S36} (hg:(cutG (flatP n P) lo up)[g]? =some x):(∀ l,lo=some l→cb l (Ky x)≤0)∧(∀ u,up=some u→cb (Ky x) u < 0):=by
 obtain ⟨h1,h2⟩:=cut_getx _ _ _ _ _ hg
 refine ⟨fun l hl=>?_,fun u hu=>?_⟩
 ·have:=(not_congr (L.low h2)).1 (by omega)
  exact cb_le_lt.2 (fun h=>this ⟨l,hl,h⟩)
 ·have:=(L.upp h2).1 h1
  by_cases h:cb (Ky x) u < 0
  ·exact h
  ·exact absurd ⟨u,hu,cb_ge.1 h⟩ this
end
theorem cb_self [Bd] (a:List UInt8):cb a a≤0:=by
 show Lib.compareBytes a a≤0
 rw [cb_refl];decide
theorem bnds_ok [Bd] {n:Nat} {P:Nat→List S36} {sm lg:Nat→List UInt8} (lo up:ByteArray) (hl hu:Bool) (L:Lay n P sm lg (opt hl lo) (opt hu up)):Bnds lo up hl hu (cutG (flatP n P) (opt hl lo) (opt hu up)):=by
 have hlo: ∀ l,opt hl lo=some l→inK (opt hl lo) (opt hu up) l:=fun l h=>
  ⟨fun l' h'=>by rw [h] at h';cases h';exact cb_self _,fun u h'=>L.lu l u h h'⟩
 have hup: ∀ u,opt hu up=some u→inK (opt hl lo) (opt hu up) u:=fun u h=>
  ⟨fun l h'=>L.lu l u h' h,fun u' h'=>by rw [h] at h';cases h';exact cb_self _⟩
 refine ⟨fun l h=>⟨?_,hlo l h⟩,fun u h=>⟨?_,hup u h⟩,fun k=>?_⟩
 ·rw [L.seek_cut (hlo l h)]
  have:lowN (flatP n P) (opt hl lo)=lSeek (flatP n P) l:=by rw [h];rfl
  omega
 ·rw [L.seek_cut (hup u h),cut_len L]
  have:uppN (flatP n P) (opt hu up)=lSeek (flatP n P) u:=by rw [h];rfl
  omega
 ·have e1:TL.bs (wkey1 lo hl k)=if hl=true∧cb (TL.bs k) (TL.bs lo) < 0 then TL.bs lo else TL.bs k:=by
   unfold wkey1
   rw [less_cmpB]
   show TL.bs (if (hl&&decide (cb (TL.bs k) (TL.bs lo) < 0))=true then lo else k)=_
   by_cases h:hl=true∧cb (TL.bs k) (TL.bs lo) < 0
   ·rw [if_pos h,if_pos (by simp [h.1,h.2])]
   ·rw [if_neg h,if_neg (by simpa using h)]
  have e2:TL.bs (wkey lo up hl hu k)=if hu=true∧0 < cb (TL.bs (wkey1 lo hl k)) (TL.bs up) then TL.bs up else TL.bs (wkey1 lo hl k):=by
   rw [wkey_cmp]
   show TL.bs (if hu=true∧0 < cb (TL.bs (wkey1 lo hl k)) (TL.bs up) then up else wkey1 lo hl k)=_
   split<;>rfl
  have hloS:hl=true→opt hl lo=some (TL.bs lo):=fun h=>by unfold opt;rw [if_pos h]
  have hupS:hu=true→opt hu up=some (TL.bs up):=fun h=>by unfold opt;rw [if_pos h]
  have hlo1: ∀ l,opt hl lo=some l→cb l (TL.bs (wkey1 lo hl k))≤0:=by
   intro l h
   have hh:hl=true:=by
    cases hl with
    |true=>rfl
    |false=>cases h
   rw [hloS hh] at h;cases h
   rw [e1]
   split
   ·exact cb_self _
   ·rename_i h2
    exact cb_ge.1 (fun h3=>h2 ⟨hh,h3⟩)
  have hin:inK (opt hl lo) (opt hu up) (TL.bs (wkey lo up hl hu k)):=by
   rw [e2]
   split
   ·rename_i h2
    exact hup _ (hupS h2.1)
   ·rename_i h2
    refine ⟨hlo1,fun u h=>?_⟩
    have hh:hu=true:=by
     cases hu with
     |true=>rfl
     |false=>cases h
    rw [hupS hh] at h;cases h
    have h3: ¬ 0 < cb (TL.bs (wkey1 lo hl k)) (TL.bs up):=fun h3=>h2 ⟨hh,h3⟩
    exact Int.not_lt.1 h3
  refine ⟨?_,hin⟩
  refine lSeek_uniq (lSeek_le _ _) (fun g x hg=>?_)
  rw [L.cut_seek (TL.bs k) hg]
  obtain ⟨h5,h6⟩:=L.cut_in hg
  have hw1:cb (Ky x) (TL.bs k) < 0↔cb (Ky x) (TL.bs (wkey1 lo hl k)) < 0:=by
   rw [e1]
   split
   ·rename_i h2
    have h7:=h5 _ (hloS h2.1)
    constructor
    ·intro h8
     exact absurd (cb_trans_lt _ _ _ h8 (Int.le_of_lt h2.2)) (cb_le_lt.1 h7)
    ·intro h8
     exact absurd h8 (cb_le_lt.1 h7)
   ·exact Iff.rfl
  rw [hw1,e2]
  split
  ·rename_i h2
   have h7:=h6 _ (hupS h2.1)
   have h8:cb (TL.bs up) (TL.bs (wkey1 lo hl k))≤0:=by
    have:=cb_anti (TL.bs (wkey1 lo hl k)) (TL.bs up)
    show Lib.compareBytes _ _≤0
    have h9:0 < Lib.compareBytes (TL.bs (wkey1 lo hl k)) (TL.bs up):=h2.2
    omega
   exact ⟨fun _=>h7,fun _=>cb_trans_lt _ _ _ h7 h8⟩
  ·exact Iff.rfl
end Go.Proofs.YtghppnklhbbffaaGreatDoor.X
