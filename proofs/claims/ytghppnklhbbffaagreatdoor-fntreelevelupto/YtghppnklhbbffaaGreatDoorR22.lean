/- Part 22 of the proof that laws.FnTreeLevel answers true, for arguments of small bulk. -/
import Derived.Test.YtghppnklhbbffaaGreatDoorR05
import Derived.Test.YtghppnklhbbffaaGreatDoorR21
import Derived.Test.YtghppnklhbbffaaGreatDoorR12
import Derived.Test.YtghppnklhbbffaaGreatDoorR13
set_option linter.all false
set_option maxHeartbeats 4000000
set_option maxRecDepth 100000
namespace Go.Proofs.YtghppnklhbbffaaGreatDoor.X
open Go Go.RowKit Go.Proofs.YtghppnklhbbffaaGreatDoor.TL Go.Proofs.YtghppnklhbbffaaGreatDoor.PFnTreeLevel
theorem LPre.elim [Bd] {s:LvS} {lb nb:Nat} {P:Nat→List S36} {lo up:Option (List UInt8)} {sm lg:Nat→List UInt8} {nv:V1} {pos:Int} {w:World} (hp:LPre s lb nb P lo up sm lg nv pos w):
  ∃ tl tu it fi:V1,Sat [lb,nb] (HV s tl tu (o1 it) (o1 fi) (o1 nv) pos) w∧ ∀ (nv':V1) (pos':Int) (w':World),Kept [330,224] w w'→Sat [lb,nb] (HV s tl tu (o1 it) (o1 fi) (o1 nv') pos') w'→LPre s lb nb P lo up sm lg nv' pos' w':=by
 rcases hp with ⟨tl,tu,hs⟩|⟨j,hj,tl,tu,hs⟩|⟨j,at_,hj,hJ,tl,tu,b,vk,vv,hs,hb,hL,hzb⟩
 ·exact ⟨tl,tu,niV,npV,hs.vals (by kernel_rfl),fun nv' pos' w' _ h=>.inl ⟨tl,tu,h.vals (by kernel_rfl)⟩⟩
 ·exact ⟨tl,tu,niV,nbV (s.fl j),hs.vals (by kernel_rfl),fun nv' pos' w' _ h=>.inr (.inl ⟨j,hj,tl,tu,h.vals (by kernel_rfl)⟩)⟩
 ·exact ⟨tl,tu,lsV b,nbV (s.fl j),hs.vals (by kernel_rfl),fun nv' pos' w' hk h=>.inr (.inr ⟨j,at_,hj,hJ,tl,tu,b,vk,vv,h.vals (by kernel_rfl),(hk.block b (solid_of hb (by simp))).trans hb,hL.kept hk (by simp) (by simp) (by simp),hzb⟩)⟩
abbrev Z1:List SB:=[⟨224,[.ns,.np]⟩]
abbrev nilT:Value:=.tuple #[.pointer none,.agg #[.slice none 0 0,.pointer none]]
def ONone [Bd] (s:LvS) (lb nb:Nat) (P:Nat→List S36) (lo up:Option (List UInt8)) (sm lg:Nat→List UInt8) (w:World) (e:Ending) (w':World):Prop:=
 e=.returned nilT∧Kept KT w w'∧ ∃ nv pos,LPre s lb nb P lo up sm lg nv pos w'
def OSome [Bd] (s:LvS) (lb nb:Nat) (P:Nat→List S36) (lo up:Option (List UInt8)) (sm lg:Nat→List UInt8) (i p:Nat) (w:World) (e:Ending) (w':World):Prop:=
 (∃ (v:Value) (h:p < (P i).length),e=.returned v∧KRes w' (some ((P i)[p]'h)) v)∧Kept KT w w'∧LOpen s lb nb P lo up sm lg i p (nbV nb) i w'
abbrev nsW:V1:=⟨.slice none 0 0,rfl⟩
abbrev ZW:List SB:=[⟨224,[o1 nsW,.np]⟩]
abbrev VV (a b:V1):List SB:=[⟨224,[o1 a,.np]⟩,⟨224,[o1 b,.np]⟩]
abbrev HW (s:LvS) (nb:Nat) (tl tu it fi:V1) (pos:Int):List SB:=HV s tl tu (o1 it) (o1 fi) (o1 (nbV nb)) pos
abbrev AX (k:SV) (vu:V1):SV:=.tup [k,.agg [o1 vu,.np]]
def F251 (fn:Func) (S:ST) (H:List SB) (v3 v5:V1) (k:SV) (vu v3' v5':V1):Prop:=
 callF Tryz.prog S=some (251,[.p 0 0,k,.agg [o1 vu,.np]])∧(∀ bs,vals bs S.H=vals bs (H++VV v3 v5))∧(let T:=runS Tryz.prog ⟨[224,4000000],4,[],[],0⟩ 200 (afterC S (AX k vu) (H++VV v3 v5));T.ob=[]∧T.H.length=4∧(∀ bs,vals bs T.H=vals bs (H++VV v3' v5'))∧resS Tryz.prog fn T=some (AX k vu)∧retB T=true)
section
variable {fn:Func} {R:Ending→World→Prop} {S:ST} {w a:World} {s:LvS} {lb nb b3 b5:Nat} {tl tu it fi:V1} {pos:Int} {ts1:List TypeId}
theorem Sat.hd2 [Bd] {r:List Nat} {V:List SB} (h:Sat (lb::nb::r) (HW s nb tl tu it fi pos++V) w):Sat [lb,nb] (HW s nb tl tu it fi pos) w:=
 h.sub [0,1] (by decide) (by simp) rfl ⟨h.memC 0 rfl (by kernel_rfl),h.memC 1 rfl (by kernel_rfl),trivial⟩
theorem Sat.re2 [Bd] {ts:List TypeId} {tl2 tu2 it2 fi2:V1} {pos2:Int} {v:V1} (h:Sat [lb,nb,b3] (HW s nb tl tu it fi pos++[⟨224,[o1 v,.np]⟩]) w) (hq:Sat [lb,nb] (HW s nb tl2 tu2 it2 fi2 pos2) a) (hk:Kept ts w a) (ht:ts.contains 224=false:=by rfl):Sat [lb,nb,b3] (HW s nb tl2 tu2 it2 fi2 pos2++[⟨224,[o1 v,.np]⟩]) a:=
 h.re rfl ⟨hq.memC 0 rfl (by kernel_rfl),hq.memC 1 rfl (by kernel_rfl),h.kp hk 2 _ rfl ht,trivial⟩
theorem Sat.re3 [Bd] {ts:List TypeId} {tl2 tu2 it2 fi2:V1} {pos2:Int} {v v':V1} (h:Sat [lb,nb,b3,b5] (HW s nb tl tu it fi pos++VV v v') w) (hq:Sat [lb,nb] (HW s nb tl2 tu2 it2 fi2 pos2) a) (hk:Kept ts w a) (ht:ts.contains 224=false:=by rfl):Sat [lb,nb,b3,b5] (HW s nb tl2 tu2 it2 fi2 pos2++VV v v') a:=
 h.re rfl ⟨hq.memC 0 rfl (by kernel_rfl),hq.memC 1 rfl (by kernel_rfl),h.kp hk 2 _ rfl ht,h.kp hk 3 _ rfl ht,trivial⟩
theorem tC [Bd] (v3 v5:V1) (k:SV) (vu v3' v5' kv:V1) (hk: ∀ bs,k.den bs=kv.1) (hW:Wk [lb,nb,b3,b5] S a) (hK:Kept KT w a) (hfr: ∀ b∈[b3,b5],w.heap.size≤b) (hF:F251 fn S (HW s nb tl tu it fi pos) v3 v5 k vu v3' v5')
  (hR: ∀ a',Kept KT w a'→Kept [224,4000000] a a'→Sat [lb,nb] (HW s nb tl tu it fi pos) a'→R (.returned (.tuple #[kv.1,.agg #[vu.1,.pointer none]])) a'):
  kx Tryz.prog (bodyPost Tryz.prog fn R) S.K .normal (actS [lb,nb,b3,b5] S.T) a:=by
 obtain ⟨f1,f2,f3,f4,f5,f6,f7⟩:=hF
 have hs:=hW.sq _ (f2 _)
 have hc:Calls Tryz.prog 251 (SV.denL [lb,nb,b3,b5] [.p 0 0,k,.agg [o1 vu,.np]]).toArray a fun e w'=>e=.returned (.tuple #[kv.1,.agg #[vu.1,.pointer none]])∧Ext a w':=by
  have:=c251 (.pointer (some ⟨lb,0,none⟩)) kv.1 vu.1 kv.2 vu.2 a
  rw [←hk [lb,nb,b3,b5]] at this ⊢
  exact this
 refine gc 251 [.p 0 0,k,.agg [o1 vu,.np]] hW (hc.mono ?_) f1
 rintro e a1 ⟨rfl,hE⟩
 have hs1:=hs.kq hE
 refine ⟨AX k vu,[],_,by rw [←hk ([lb,nb,b3,b5]++[])];rfl,hs1,fun hW1=>?_⟩
 refine gg0 200 ⟨[224,4000000],4,[],[],0⟩ hW1 (fun a2 hK2 hN2 hW2=>?_) [] trivial (by kernel_rfl) rfl (by simp) f3 f4
 exact gt (AX k vu) hW2.sat (by have:=hR a2 ((hK.tr hE (ts:=KT)).fin hK2 hN2 (fin4 hs1 hfr rfl rfl)) (hE.tr hK2 (ts:=[224,4000000])) (hW2.sq _ (f5 _)).hd2;rw [←hk [lb,nb,b3,b5]] at this;exact this) f6 f7
theorem fr2 {ts:List TypeId} [Bd] {w5:World} (h: ∀ b∈[b3],w.heap.size≤b) (h5: ∀ b∈[b5],w5.heap.size≤b) (hk:Kept ts w w5): ∀ b∈[b3,b5],w.heap.size≤b:=by
 intro b hb
 simp only [List.mem_cons,List.not_mem_nil,or_false] at hb
 rcases hb with rfl|rfl
 ·exact h _ (by simp)
 ·exact Nat.le_trans hk.size (h5 _ (by simp))
theorem tA [Bd] {lf:FuncId} (args:List SV) {P:Nat→List S36} {lo up:Option (List UInt8)} {sm lg:Nat→List UInt8} {i p b:Nat} {vk vv:Value} (hW:Wk [lb,nb,b3] S a) (hK:Kept KT w a) (hfr: ∀ x∈[b3],w.heap.size≤x) (hL:LstC a vk vv tl.1 tu.1 (P i) (tlB lo (sm i)) (tuB up (lg i))) (hzb:Bd.B≤b)
  (hc:Calls Tryz.prog lf (SV.denL [lb,nb,b3] args).toArray a fun e w'=>LDone a w' b vk vv tl.1 tu.1 (P i) p (some p) e) (h0:callF Tryz.prog S=some (lf,args)) (hH:vals [lb,nb,b3] S.H=vals [lb,nb,b3] (HW s nb tl tu (lsV b) (nbV (s.fl i)) i++ZW))
  (hF: ∀ (ka:Addr) (vu:V1),let k:=SV.ptr ka;let S7:=runS Tryz.prog ⟨ts1,3,[],[],0⟩ 200 (afterC S (AX k vu) (HW s nb tl tu (lsV b) (nbV (s.fl i)) i++ZW));S7.ob=[]∧S7.H.length=4∧F251 fn S7 (HW s nb tl tu (lsV b) (nbV (s.fl i)) i) nsW vu k vu vu vu) (ht: ∀ t∈ts1,t∈[330]:=by simp):
  kx Tryz.prog (bodyPost Tryz.prog fn (OSome s lb nb P lo up sm lg i p w)) S.K .normal (actS [lb,nb,b3] S.T) a:=by
 have hs:=hW.sq _ hH
 refine gc lf args hW (hc.mono ?_) h0
 rintro e w6 ⟨⟨v,rfl,hres⟩,hrow,hK6⟩
 have hL6:=hL.kept hK6 (by simp) (by simp) (by simp)
 obtain ⟨hx',gg,gn,gc,vu,hvk,rfl,hvu⟩:=hres
 have hF:=hF ⟨gg,p*2,none⟩ ⟨vu,RdS.one hvu⟩
 refine ⟨AX (.ptr ⟨gg,p*2,none⟩) ⟨vu,RdS.one hvu⟩,[],_,rfl,hs.kq hK6,fun hW6=>?_⟩
 refine gr1 (bs:=[lb,nb,b3]) 200 ⟨ts1,3,[],[],0⟩ hW6 (fun b5 w7 hfr5 hK7 hW7=>?_) [] trivial (by kernel_rfl) rfl hF.1 hF.2.1
 have hK7:Kept [330] w6 w7:=hK7.mono ht
 refine tC _ _ _ _ _ _ ⟨.pointer (some ⟨gg,p*2,none⟩),rfl⟩ (fun _=>rfl) hW7 (hK.tr (hK6.tr hK7 (ts:=KT)) (ts:=KT)) (fr2 hfr hfr5 (hK.tr hK6 (ts:=KT))) hF.2.2 fun a' h1 h2 h3=>?_
 have hY:Kept [330,224,4000000] w6 a':=hK7.tr h2 (ts:=[330,224,4000000])
 exact ⟨⟨_,hx',rfl,(kres_of hL6 hx' hvk hvu).kept hY⟩,h1,tl,tu,b,vk,vv,h3.vals (by kernel_rfl),(hY.block b (solid_of hrow (by simp))).trans hrow,hL6.kept hY (by simp) (by simp) (by simp),hzb⟩
theorem tN [Bd] {lf:FuncId} (args:List SV) (sk:FuncId) {P:Nat→List S36} {lo up:Option (List UInt8)} {sm lg:Nat→List UInt8} {i b:Nat} {at':Int} {vk vv:Value} (hW:Wk [lb,nb,b3] S a) (hK:Kept KT w a) (hfr: ∀ x∈[b3],w.heap.size≤x) (hL:LstC a vk vv tl.1 tu.1 (P i) (tlB lo (sm i)) (tuB up (lg i))) (hzb:Bd.B≤b)
  (hc:Calls Tryz.prog lf (SV.denL [lb,nb,b3] args).toArray a fun e w'=>LDone a w' b vk vv tl.1 tu.1 (P i) at' none e) (h0:callF Tryz.prog S=some (lf,args)) (hH:vals [lb,nb,b3] S.H=vals [lb,nb,b3] (HW s nb tl tu (lsV b) (nbV (s.fl i)) i++ZW))
  (hsk: ∀ w',Kept KT w w'→LOpen s lb nb P lo up sm lg i at' (nbV nb) i w'→Calls Tryz.prog sk #[.pointer (some ⟨lb,0,none⟩)] w' fun e w''=>Kept KT w' w''∧ ∃ k vu tl it fi tu:V1, ∃ pos,e=.returned (.tuple #[k.1,.agg #[vu.1,.pointer none]])∧Sat [lb,nb] (HW s nb tl tu it fi pos) w''∧ ∀ a',Kept [224,4000000] w'' a'→Kept KT w a'→Sat [lb,nb] (HW s nb tl tu it fi pos) a'→R e a')
  (hF:let S7:=runS Tryz.prog ⟨ts1,3,[],[],0⟩ 200 (afterC S (AX .np nsW) (HW s nb tl tu (lsV b) (nbV (s.fl i)) i++ZW));S7.ob=[]∧S7.H.length=4∧callF Tryz.prog S7=some (sk,[.p 0 0])∧(∀ bs,vals bs S7.H=vals bs (HW s nb tl tu (lsV b) (nbV (s.fl i)) i++VV nsW nsW))∧ ∀ (k vu tl it fi tu:V1) (pos:Int),let S9:=runS Tryz.prog ⟨[],4,[],[],0⟩ 200 (afterC S7 (AX (o1 k) vu) (HW s nb tl tu it fi pos++VV nsW nsW));S9.ob=[]∧S9.H.length=4∧F251 fn S9 (HW s nb tl tu it fi pos) nsW nsW (o1 k) vu vu nsW) (ht: ∀ t∈ts1,t∈[330]:=by simp):
  kx Tryz.prog (bodyPost Tryz.prog fn R) S.K .normal (actS [lb,nb,b3] S.T) a:=by
 have hs:=hW.sq _ hH
 obtain ⟨g1,g2,g3,g4,g5⟩:=hF
 refine gc lf args hW (hc.mono ?_) h0
 rintro e w6 ⟨⟨v,rfl,hres⟩,hrow,hK6⟩
 have hL6:=hL.kept hK6 (by simp) (by simp) (by simp)
 have hres:v=nilT:=hres
 subst hres
 refine ⟨AX .np nsW,[],_,rfl,hs.kq hK6,fun hW6=>?_⟩
 refine gr1 (bs:=[lb,nb,b3]) 200 ⟨ts1,3,[],[],0⟩ hW6 (fun b5 w7 hfr5 hK7 hW7=>?_) [] trivial (by kernel_rfl) rfl g1 g2
 have hK7:Kept [330] w6 w7:=hK7.mono ht
 have hKA:Kept KT w w7:=hK.tr (hK6.tr hK7 (ts:=KT)) (ts:=KT)
 have hs7:=hW7.sq _ (g4 _)
 have hpA:LOpen s lb nb P lo up sm lg i at' (nbV nb) i w7:=⟨tl,tu,b,vk,vv,hs7.hd2.vals (by kernel_rfl),(hK7.block b (solid_of hrow (by simp))).trans hrow,hL6.kept hK7 (by simp) (by simp) (by simp),hzb⟩
 refine gc sk [.p 0 0] hW7 ((hsk w7 hKA hpA).mono ?_) g3
 rintro e w8 ⟨hK8,k,vu,tl,it,fi,tu,pos,rfl,hq8,hR⟩
 obtain ⟨q1,q2,q3⟩:=g5 k vu tl it fi tu pos
 refine ⟨AX (o1 k) vu,[],_,rfl,hs7.re3 hq8 hK8,fun hW8=>?_⟩
 refine gr0 (bs:=[lb,nb,b3,b5]) 200 ⟨[],4,[],[],0⟩ hW8 (fun w9 hK9 hW9=>?_) [] trivial (by kernel_rfl) rfl q1 q2
 exact tC _ _ _ _ _ _ k (fun _=>rfl) hW9 (hKA.tr (hK8.tr hK9 (ts:=KT)) (ts:=KT)) (fr2 hfr hfr5 (hK.tr hK6 (ts:=KT))) q3 fun a' h1 h2 h3=>hR a' (hK9.tr h2 (ts:=[224,4000000])) h1 h3
end
def fnN:Nat→FuncId|0=>240|1=>241|2=>245|3=>246|4=>245|5=>242|_=>244
noncomputable def fnF:Nat→Func|0=>Tryz.f240|1=>Tryz.f241|2=>Tryz.f245|3=>Tryz.f246|4=>Tryz.f245|5=>Tryz.f242|_=>Tryz.f244
def mvN:Nat→FuncId|0=>106|1=>253|2=>256|_=>258
def lfN:Nat→FuncId|0=>208|1=>209|2=>213|3=>214|4=>213|5=>210|_=>212
def skN:Nat→FuncId|1=>254|3=>254|6=>254|_=>252
def mArg (kv:V1):Nat→List SV|0=>[.p 0 31]|1=>[.p 0 31]|_=>[.p 0 0,o1 kv,.it .u8 0]
def kArg (kv:V1) (x:SV):Nat→List SV|2=>[x,o1 kv,.it .u8 0]|3=>[x,o1 kv,.it .u8 0]|4=>[x,o1 kv,.it .u8 0]|_=>[x]
def dirN:Nat→Int|1=> -1|3=> -1|_=>1
def fS:Option Nat→SV|some b=>.ptr ⟨b,0,none⟩|none=>.np
abbrev HI (s:LvS) (nb:Nat) (tl tu:V1) (b r:Nat):List SB:=HV s tl tu (.ifc 155 (.ptr ⟨b,0,none⟩)) (.ptr ⟨s.fl r,0,none⟩) (o1 (nbV nb)) r
noncomputable def S3p (s:LvS) (nb k:Nat) (kv tl tu it fi nv:V1) (pos np:Int) (f:Option Nat):ST:=runS Tryz.prog ⟨[],3,[],[],0⟩ 200 (afterC (runS Tryz.prog ⟨[330],2,[],[],0⟩ 200 (startS (fnF k) (kArg kv (.p 0 0) k) (HV s tl tu (o1 it) (o1 fi) (o1 nv) pos))) (fS f) (HW s nb tl tu it fi np++ZW))
noncomputable def S5p (s:LvS) (nb:Nat) (S3:ST) (q:Int) (tl tu:V1) (b r:Nat) (k:Nat):ST:=
 let S4:=afterC S3 (.si .i8 q) (HI s nb tl tu b r++ZW)
 match k with
 |0=>runS Tryz.prog ⟨[],3,[],[(32,false)],0⟩ 200 S4
 |1=>runS Tryz.prog ⟨[],3,[],[(32,false)],0⟩ 200 S4
 |2=>runS Tryz.prog ⟨[],3,[],[(38,false),(41,false)],0⟩ 200 S4
 |3=>runS Tryz.prog ⟨[],3,[],[(36,false)],0⟩ 200 S4
 |_=>runS Tryz.prog ⟨[],3,[],[],0⟩ 200 (afterC (runS Tryz.prog ⟨[],3,[],[(38,false),(41,true)],0⟩ 200 S4) (.it .u8 0) (HI s nb tl tu b r++ZW))
theorem fn_ok {k:Nat} (hk:k < 7):Tryz.prog.funcs[fnN k]? =some (fnF k):=
 match k,hk with
 |0,_=>Tryz.func240|1,_=>Tryz.func241|2,_=>Tryz.func245|3,_=>Tryz.func246|4,_=>Tryz.func245|5,_=>Tryz.func242|6,_=>Tryz.func244
section
variable [Bd] (s:LvS) (lb nb:Nat) (P:Nat→List S36) (fm:Nat→FM) (lo up:Option (List UInt8)) (sm lg:Nat→List UInt8)
theorem pre {k:Nat} (hk:k < 4) (kv:V1) (f:Option Nat) (np:Int) (w:World) (he:LEnv s lb nb P fm lo up sm lg w) (nv:V1) (pos:Int) (hp:LPre s lb nb P lo up sm lg nv pos w) {R:Ending→World→Prop}
  (hmv: ∀ (tl tu it fi:V1) (w1:World),Kept [330] w w1→Sat [lb,nb] (HV s tl tu (o1 it) (o1 fi) (o1 nv) pos) w1→Calls Tryz.prog (mvN k) (SV.denL [lb,nb] (mArg kv k)).toArray w1 fun e w'=>e=.returned ((fS f).den [])∧Kept [330] w1 w'∧Sat [lb,nb] (HW s nb tl tu it fi np) w')
  (h: ∀ (tl tu it fi:V1) (b3:Nat) (w3:World),(∀ x∈[b3],w.heap.size≤x)→Kept [330] w w3→LPre s lb nb P lo up sm lg (nbV nb) np w3→Sat [lb,nb,b3] (HW s nb tl tu it fi np++ZW) w3→Wk [lb,nb,b3] (S3p s nb k kv tl tu it fi nv pos np f) w3→kx Tryz.prog (bodyPost Tryz.prog (fnF k) R) (S3p s nb k kv tl tu it fi nv pos np f).K .normal (actS [lb,nb,b3] (S3p s nb k kv tl tu it fi nv pos np f).T) w3):
  Calls Tryz.prog (fnN k) (SV.denL [lb,nb] (kArg kv (.p 0 0) k)).toArray w R:=by
 obtain ⟨tl,tu,it,fi,hs,hre⟩:=hp.elim
 have h:=h tl tu it fi
 have hf:=fn_ok (k:=k) (by omega)
 let F:=fS f
 let K:=k
 rcases (by omega:k=0∨k=1∨k=2∨k=3) with rfl|rfl|rfl|rfl
 all_goals
  cases f
  all_goals
   refine gs (bs:=[lb,nb]) (kArg kv (.p 0 0) K) (HV s tl tu (o1 it) (o1 fi) (o1 nv) pos) hf hs (fun hW=>?_)
   refine gr1 (bs:=[lb,nb]) 200 ⟨[330],2,[],[],0⟩ hW fun b3 w1 hfr hK1 hW1=>?_
   have hs1:Sat [lb,nb,b3] (HV s tl tu (o1 it) (o1 fi) (o1 nv) pos++ZW) w1:=hW1.sq _
   have hq1:Sat [lb,nb] (HV s tl tu (o1 it) (o1 fi) (o1 nv) pos) w1:=hs1.sub [0,1] (by decide) (by simp) rfl ⟨hs1.memC 0 rfl (by kernel_rfl),hs1.memC 1 rfl (by kernel_rfl),trivial⟩
   refine gc (mvN K) (mArg kv K) hW1 ((hmv tl tu it fi w1 hK1 hq1).mono ?_)
   rintro e w2 ⟨rfl,hK2,hq2⟩
   have hs2:Sat [lb,nb,b3] (HW s nb tl tu it fi np++ZW) w2:=hs1.re rfl ⟨hq2.memC 0 rfl (by kernel_rfl),hq2.memC 1 rfl (by kernel_rfl),hs1.kp hK2 2 _ rfl rfl,trivial⟩
   refine ⟨F,[],HW s nb tl tu it fi np++ZW,(by kernel_rfl),hs2,fun hW2=>?_⟩
   refine gr0 (bs:=[lb,nb,b3]) 200 ⟨[],3,[],[],0⟩ hW2 fun w3 hK3 hW3=>?_
   have hs3:=hW3.sq (HW s nb tl tu it fi np++ZW)
   have hK:=hK1.tr (hK2.tr hK3 (ts:=[330])) (ts:=[330])
   exact h b3 w3 hfr hK (hre (nbV nb) np w3 (hK.mono (by simp)) hs3.hd2) hs3 hW3
theorem cOut {k:Nat} (hk:k < 4) (kv:V1) (f:Option Nat) (np:Int) (fv:V1) (w:World) (he:LEnv s lb nb P fm lo up sm lg w) (nv:V1) (pos:Int) (hp:LPre s lb nb P lo up sm lg nv pos w) (hf:fv=npV∨ ∃ r,r < s.n∧fv=nbV (s.fl r))
  (hmv: ∀ (tl tu it fi:V1) (w1:World),Kept [330] w w1→Sat [lb,nb] (HV s tl tu (o1 it) (o1 fi) (o1 nv) pos) w1→Calls Tryz.prog (mvN k) (SV.denL [lb,nb] (mArg kv k)).toArray w1 fun e w'=>e=.returned ((fS f).den [])∧Kept [330] w1 w'∧Sat [lb,nb] (HW s nb tl tu it fi np) w')
  (h250: ∀ w3,LEnv s lb nb P fm lo up sm lg w3→LPre s lb nb P lo up sm lg (nbV nb) np w3→Calls Tryz.prog 250 #[.pointer (some ⟨lb,0,none⟩),(fS f).den [],.int .i64 (dirN k)] w3 fun e w'=>e=.returned (.int .i8 0)∧Kept [330] w3 w'∧LShut s lb nb fv (nbV nb) np w'):
  Calls Tryz.prog (fnN k) (SV.denL [lb,nb] (kArg kv (.p 0 0) k)).toArray w (ONone s lb nb P lo up sm lg w):=by
 refine pre s lb nb P fm lo up sm lg hk kv f np w he nv pos hp hmv fun tl tu it fi b3 w3 hfr hK3 hp3 hs3 hW3=>?_
 have h250:=h250 w3 (he.kept hK3) hp3
 let F:=fS f
 let K:=k
 rcases (by omega:k=0∨k=1∨k=2∨k=3) with rfl|rfl|rfl|rfl
 all_goals
  cases f
  all_goals
   refine gc 250 [.p 0 0,F,.it .i64 (dirN K)] hW3 (h250.mono ?_) (by kernel_rfl)
   rintro e w4 ⟨rfl,hK4,tl2,tu2,hq4⟩
   have hs4:=hs3.re2 (hq4.vals (by kernel_rfl):Sat [lb,nb] (HW s nb tl2 tu2 niV fv np) w4) hK4
   refine ⟨.it .i8 0,[],_,rfl,hs4,fun hW4=>?_⟩
   refine gg0 (bs:=[lb,nb,b3]) 200 ⟨[224,4000000],3,[],[],0⟩ hW4 fun w5 hK5 hN5 hW5=>?_
   have hs5:=(hW5.sq (HW s nb tl2 tu2 niV fv np++ZW)).hd2
   refine gt (.tup [.np,.agg [.ns,.np]]) hW5.sat ⟨rfl,(hK3.tr hK4 (ts:=KT)).fin hK5 hN5 (fun x hx=>?_),nbV nb,np,?_⟩
   ·simp only [List.mem_append,List.mem_cons,List.not_mem_nil,or_false] at hx
    rcases hx with rfl|rfl|rfl
    ·exact .inr ⟨_,_,_,hs4.mem 0 _ rfl,by simp⟩
    ·exact .inr ⟨_,_,_,hs4.mem 1 _ rfl,by simp⟩
    ·exact .inl (hfr _ (by simp))
   ·rcases hf with rfl|⟨r,hr,rfl⟩
    ·exact .inl ⟨tl2,tu2,hs5.vals (by kernel_rfl)⟩
    ·exact .inr (.inl ⟨r,hr,tl2,tu2,hs5.vals (by kernel_rfl)⟩)
theorem cIn {k:Nat} (hk:k < 4) (kv:V1) (r:Nat) (hr:r < s.n) (hI:itbI lo up (sm r) (lg r)=0) (w:World) (he:LEnv s lb nb P fm lo up sm lg w) (nv:V1) (pos:Int) (hp:LPre s lb nb P lo up sm lg nv pos w) {R:Ending→World→Prop}
  (hmv: ∀ (tl tu it fi:V1) (w1:World),Kept [330] w w1→Sat [lb,nb] (HV s tl tu (o1 it) (o1 fi) (o1 nv) pos) w1→Calls Tryz.prog (mvN k) (SV.denL [lb,nb] (mArg kv k)).toArray w1 fun e w'=>e=.returned ((fS (some (s.fl r))).den [])∧Kept [330] w1 w'∧Sat [lb,nb] (HW s nb tl tu it fi r) w')
  (h: ∀ (tl0 tu0 it fi tl tu:V1) (b3 b:Nat) (vk vv:Value) (at_ q:Int) (w5:World) (k5:Nat),(k5=k∨k=2∧k5=4)→(∀ x∈[b3],w.heap.size≤x)→Kept KT w w5→w5.heap[b]? =some (.cells #[vk,vv,.int .i64 at_,tl.1,tu.1] 266 (0,0))→LstC w5 vk vv tl.1 tu.1 (P r) (tlB lo (sm r)) (tuB up (lg r))→Bd.B≤b→
   Wk [lb,nb,b3] (S5p s nb (S3p s nb k5 kv tl0 tu0 it fi nv pos r (some (s.fl r))) q tl tu b r k5) w5→kx Tryz.prog (bodyPost Tryz.prog (fnF k5) R) (S5p s nb (S3p s nb k5 kv tl0 tu0 it fi nv pos r (some (s.fl r))) q tl tu b r k5).K .normal (actS [lb,nb,b3] (S5p s nb (S3p s nb k5 kv tl0 tu0 it fi nv pos r (some (s.fl r))) q tl tu b r k5).T) w5):
  Calls Tryz.prog (fnN k) (SV.denL [lb,nb] (kArg kv (.p 0 0) k)).toArray w R:=by
 refine pre s lb nb P fm lo up sm lg hk kv (some (s.fl r)) r w he nv pos hp hmv fun tl0 tu0 it fi b3 w3 hfr hK3 hp3 hs3 hW3=>?_
 have h250:=c250_in s lb nb P fm lo up sm lg (nbV nb) r r hr ⟨.int .i64 (dirN k),rfl⟩ w3 (he.kept hK3) hp3 hI
 let K:=k
 rcases (by omega:k=0∨k=1∨k=2∨k=3) with rfl|rfl|rfl|rfl
 all_goals
  refine gc 250 [.p 0 0,.ptr ⟨s.fl r,0,none⟩,.it .i64 (dirN K)] hW3 (h250.mono ?_)
  rintro e w4 ⟨⟨q,at2,hq,rfl,_,tl,tu,b,vk,vv,hq4,hb4,hL4,hzb⟩,hK4⟩
  have hs4:Sat [lb,nb,b3] (HI s nb tl tu b r++ZW) w4:=(hs3.re2 (hq4.vals (by kernel_rfl):Sat [lb,nb] (HW s nb tl tu (lsV b) (nbV (s.fl r)) r) w4) hK4).vals (by kernel_rfl)
  have hK4:Kept KT w w4:=hK3.tr hK4 (ts:=KT)
  have hgo: ∀ {w5},Ext w4 w5→Kept KT w w5∧w5.heap[b]? =some (.cells #[vk,vv,.int .i64 at2,tl.1,tu.1] 266 (0,0))∧LstC w5 vk vv tl.1 tu.1 (P r) (tlB lo (sm r)) (tuB up (lg r)):=fun hX=>⟨hK4.tr hX (ts:=KT),(hX.block b (solid_of hb4 (by simp))).trans hb4,hL4.kept hX (by simp) (by simp) (by simp)⟩
  have hq0:(q==0)=false:=by rcases hq with rfl|rfl<;>rfl
  refine ⟨.si .i8 q,[],HI s nb tl tu b r++ZW,rfl,hs4,fun hW4=>?_⟩
 ·refine gr0 (bs:=[lb,nb,b3]) 200 ⟨[],3,[],[(32,false)],0⟩ hW4 (fun w5 hK5 hW5=>?_) [(q==0,false)] ⟨hq0,trivial⟩
  obtain ⟨g1,g2,g3⟩:=hgo hK5
  exact h tl0 tu0 it fi tl tu b3 b vk vv at2 q w5 0 (.inl rfl) hfr g1 g2 g3 hzb hW5
 ·refine gr0 (bs:=[lb,nb,b3]) 200 ⟨[],3,[],[(32,false)],0⟩ hW4 (fun w5 hK5 hW5=>?_) [(q==0,false)] ⟨hq0,trivial⟩
  obtain ⟨g1,g2,g3⟩:=hgo hK5
  exact h tl0 tu0 it fi tl tu b3 b vk vv at2 q w5 1 (.inl rfl) hfr g1 g2 g3 hzb hW5
 ·by_cases h2:q=2
  ·refine gr0 (bs:=[lb,nb,b3]) 200 ⟨[],3,[],[(38,false),(41,true)],0⟩ hW4 (fun w5 hK5 hW5=>?_) [(q==0,false),(q==2,true)] ⟨hq0,by simp [h2],trivial⟩
   have hs5:=hW5.sq (HI s nb tl tu b r++ZW)
   refine gc 257 [.it .u8 0] hW5 ((c257 w5).mono ?_)
   rintro e w6 ⟨rfl,rfl⟩
   refine ⟨.it .u8 0,[],HI s nb tl tu b r++ZW,rfl,hs5,fun hW6=>?_⟩
   refine gr0 (bs:=[lb,nb,b3]) 200 ⟨[],3,[],[],0⟩ hW6 fun w7 hK7 hW7=>?_
   obtain ⟨g1,g2,g3⟩:=hgo (hK5.trans hK7)
   exact h tl0 tu0 it fi tl tu b3 b vk vv at2 q w7 4 (.inr ⟨rfl,rfl⟩) hfr g1 g2 g3 hzb hW7
  ·refine gr0 (bs:=[lb,nb,b3]) 200 ⟨[],3,[],[(38,false),(41,false)],0⟩ hW4 (fun w5 hK5 hW5=>?_) [(q==0,false),(q==2,false)] ⟨hq0,by simp [h2],trivial⟩
   obtain ⟨g1,g2,g3⟩:=hgo hK5
   exact h tl0 tu0 it fi tl tu b3 b vk vv at2 q w5 2 (.inl rfl) hfr g1 g2 g3 hzb hW5
 ·refine gr0 (bs:=[lb,nb,b3]) 200 ⟨[],3,[],[(36,false)],0⟩ hW4 (fun w5 hK5 hW5=>?_) [(q==0,false)] ⟨hq0,trivial⟩
  obtain ⟨g1,g2,g3⟩:=hgo hK5
  exact h tl0 tu0 it fi tl tu b3 b vk vv at2 q w5 3 (.inl rfl) hfr g1 g2 g3 hzb hW5
def LfC [Bd] (k:Nat) (kv:V1) (P:Nat→List S36) (lo up:Option (List UInt8)) (sm lg:Nat→List UInt8) (r:Nat) (at':Int) (o:Option Nat) (w:World) (ok:Int→Prop:=fun _=>True):Prop:=
 ∀ (tl tu:V1) (b:Nat) (vk vv:Value) (at_:Int) (w5:World),ok at_→Kept KT w w5→w5.heap[b]? =some (.cells #[vk,vv,.int .i64 at_,tl.1,tu.1] 266 (0,0))→LstC w5 vk vv tl.1 tu.1 (P r) (tlB lo (sm r)) (tuB up (lg r))→Bd.B≤b→Calls Tryz.prog (lfN k) (SV.denL [] (kArg kv (.ptr ⟨b,0,none⟩) k)).toArray w5 fun e w'=>LDone w5 w' b vk vv tl.1 tu.1 (P r) at' o e
theorem cHit {k:Nat} (hk:k < 4) (kv:V1) (r:Nat) (hr:r < s.n) (hI:itbI lo up (sm r) (lg r)=0) (p:Nat) (w:World) (he:LEnv s lb nb P fm lo up sm lg w) (nv:V1) (pos:Int) (hp:LPre s lb nb P lo up sm lg nv pos w)
  (hmv: ∀ (tl tu it fi:V1) (w1:World),Kept [330] w w1→Sat [lb,nb] (HV s tl tu (o1 it) (o1 fi) (o1 nv) pos) w1→Calls Tryz.prog (mvN k) (SV.denL [lb,nb] (mArg kv k)).toArray w1 fun e w'=>e=.returned ((fS (some (s.fl r))).den [])∧Kept [330] w1 w'∧Sat [lb,nb] (HW s nb tl tu it fi r) w') (hlf:LfC k kv P lo up sm lg r p (some p) w):
  Calls Tryz.prog (fnN k) (SV.denL [lb,nb] (kArg kv (.p 0 0) k)).toArray w (OSome s lb nb P lo up sm lg r p w):=by
 refine cIn s lb nb P fm lo up sm lg hk kv r hr hI w he nv pos hp hmv fun tl0 tu0 it fi tl tu b3 b vk vv at_ q w5 k5 h5 hfr hK hb hL hzb hW5=>?_
 have hc:=hlf tl tu b vk vv at_ w5 trivial hK hb hL hzb
 have hcc:k5=4→k=2:=fun h=>by omega
 let K:=k5
 rcases (by omega:(k5=0∧k=0)∨(k5=1∧k=1)∨(k5=2∧k=2)∨(k5=3∧k=3)∨(k5=4∧k=2)) with ⟨rfl,rfl⟩|⟨rfl,rfl⟩|⟨rfl,rfl⟩|⟨rfl,rfl⟩|⟨rfl,rfl⟩
 all_goals exact tA (ts1:=[]) (kArg kv (.ptr ⟨b,0,none⟩) K) hW5 hK hfr hL hzb hc (by kernel_rfl) (by kernel_rfl) (fun _ _=>⟨by kernel_rfl,by kernel_rfl,⟨by kernel_rfl,fun _=>by kernel_rfl,by kernel_rfl,by kernel_rfl,fun _=>by kernel_rfl,by kernel_rfl,by kernel_rfl⟩⟩)
def SkC [Bd] (s:LvS) (lb nb:Nat) (P:Nat→List S36) (lo up:Option (List UInt8)) (sm lg:Nat→List UInt8) (k r:Nat) (at':Int) (w:World) (R:Ending→World→Prop):Prop:=
 ∀ w',Kept KT w w'→LOpen s lb nb P lo up sm lg r at' (nbV nb) r w'→Calls Tryz.prog (skN k) #[.pointer (some ⟨lb,0,none⟩)] w' fun e w''=>Kept KT w' w''∧ ∃ k vu tl it fi tu:V1, ∃ pos,e=.returned (.tuple #[k.1,.agg #[vu.1,.pointer none]])∧Sat [lb,nb] (HW s nb tl tu it fi pos) w''∧ ∀ a',Kept [224,4000000] w'' a'→Kept KT w a'→Sat [lb,nb] (HW s nb tl tu it fi pos) a'→R e a'
variable {s lb nb P lo up sm lg} in
theorem skShut {fv:V1} {pos:Int} {e:Ending} {w w' w'':World} (h:e=.returned nilT∧Kept KT w' w''∧LShut s lb nb fv (nbV nb) pos w'') (hf:fv=npV∨ ∃ r,r < s.n∧fv=nbV (s.fl r)):Kept KT w' w''∧ ∃ k vu tl it fi tu:V1, ∃ pos,e=.returned (.tuple #[k.1,.agg #[vu.1,.pointer none]])∧Sat [lb,nb] (HW s nb tl tu it fi pos) w''∧ ∀ a',Kept [224,4000000] w'' a'→Kept KT w a'→Sat [lb,nb] (HW s nb tl tu it fi pos) a'→ONone s lb nb P lo up sm lg w e a':=by
 obtain ⟨rfl,hK,tl,tu,hq⟩:=h
 refine ⟨hK,npV,nsW,tl,niV,fv,tu,pos,rfl,hq.vals (by kernel_rfl),fun a' _ h2 h3=>⟨rfl,h2,nbV nb,pos,?_⟩⟩
 rcases hf with rfl|⟨r,hr,rfl⟩
 ·exact .inl ⟨tl,tu,h3.vals (by kernel_rfl)⟩
 ·exact .inr (.inl ⟨r,hr,tl,tu,h3.vals (by kernel_rfl)⟩)
variable {s lb nb P lo up sm lg} in
theorem skOpen {j p:Nat} {e:Ending} {w w' w'':World} (hp:p < (P j).length) (h:(∃ v,e=.returned v∧KRes w'' (some ((P j)[p]'hp)) v)∧Kept KT w' w''∧LOpen s lb nb P lo up sm lg j p (nbV nb) j w''):Kept KT w' w''∧ ∃ k vu tl it fi tu:V1, ∃ pos,e=.returned (.tuple #[k.1,.agg #[vu.1,.pointer none]])∧Sat [lb,nb] (HW s nb tl tu it fi pos) w''∧ ∀ a',Kept [224,4000000] w'' a'→Kept KT w a'→Sat [lb,nb] (HW s nb tl tu it fi pos) a'→OSome s lb nb P lo up sm lg j p w e a':=by
 obtain ⟨⟨v,rfl,hkr⟩,hK,tl,tu,b,vk,vv,hq,hb,hL,hzb⟩:=h
 obtain ⟨gg,off,ku,vu,cs,ff,rfl,_,_,_,_,hvu⟩:=id hkr
 exact ⟨hK,⟨.pointer (some ⟨gg,off,none⟩),rfl⟩,⟨vu,RdS.one hvu⟩,tl,lsV b,nbV (s.fl j),tu,j,rfl,hq.vals (by kernel_rfl),fun a' hY h2 h3=>⟨⟨_,hp,rfl,hkr.kept hY⟩,h2,tl,tu,b,vk,vv,h3.vals (by kernel_rfl),(hY.block b (solid_of hb (by simp))).trans hb,hL.kept hY (by simp) (by simp) (by simp),hzb⟩⟩
theorem cSkip {k:Nat} (hk:k=2∨k=3) (kv:V1) (r:Nat) (hr:r < s.n) (hI:itbI lo up (sm r) (lg r)=0) (w:World) (he:LEnv s lb nb P fm lo up sm lg w) (nv:V1) (pos:Int) (hp:LPre s lb nb P lo up sm lg nv pos w) {at':Int} {R:Ending→World→Prop}
  (hmv: ∀ (tl tu it fi:V1) (w1:World),Kept [330] w w1→Sat [lb,nb] (HV s tl tu (o1 it) (o1 fi) (o1 nv) pos) w1→Calls Tryz.prog (mvN k) (SV.denL [lb,nb] (mArg kv k)).toArray w1 fun e w'=>e=.returned ((fS (some (s.fl r))).den [])∧Kept [330] w1 w'∧Sat [lb,nb] (HW s nb tl tu it fi r) w') (hlf:LfC k kv P lo up sm lg r at' none w) (hsk:SkC s lb nb P lo up sm lg k r at' w R):
  Calls Tryz.prog (fnN k) (SV.denL [lb,nb] (kArg kv (.p 0 0) k)).toArray w R:=by
 refine cIn s lb nb P fm lo up sm lg (by omega:k < 4) kv r hr hI w he nv pos hp hmv fun tl0 tu0 it fi tl tu b3 b vk vv at_ q w5 k5 h5 hfr hK hb hL hzb hW5=>?_
 have hc:=hlf tl tu b vk vv at_ w5 trivial hK hb hL hzb
 let K:=k5
 rcases (by omega:(k5=2∧k=2)∨(k5=3∧k=3)∨(k5=4∧k=2)) with ⟨rfl,rfl⟩|⟨rfl,rfl⟩|⟨rfl,rfl⟩
 all_goals exact tN (ts1:=[]) (kArg kv (.ptr ⟨b,0,none⟩) K) (skN K) hW5 hK hfr hL hzb hc (by kernel_rfl) (by kernel_rfl) hsk ⟨by kernel_rfl,by kernel_rfl,by kernel_rfl,fun _=>by kernel_rfl,fun _ _ _ _ _ _ _=>⟨by kernel_rfl,by kernel_rfl,⟨by kernel_rfl,fun _=>by kernel_rfl,by kernel_rfl,by kernel_rfl,fun _=>by kernel_rfl,by kernel_rfl,by kernel_rfl⟩⟩⟩
theorem rHit {k:Nat} (hk:k=5∨k=6) (r p:Nat) (at_:Int) (w:World) (hp:LOpen s lb nb P lo up sm lg r at_ (nbV nb) r w) (hlf:LfC k nsW P lo up sm lg r p (some p) w (· =at_)):
  Calls Tryz.prog (fnN k) (SV.denL [lb,nb] (kArg nsW (.p 0 0) k)).toArray w (OSome s lb nb P lo up sm lg r p w):=by
 obtain ⟨tl,tu,b,vk,vv,hs,hb,hL,hzb⟩:=hp
 let K:=k
 have hf:=fn_ok (k:=k) (by omega)
 rcases hk with rfl|rfl
 all_goals
  refine gs (bs:=[lb,nb]) (kArg nsW (.p 0 0) K) (HI s nb tl tu b r) hf hs (fun hW=>?_)
  refine gr1 (bs:=[lb,nb]) 200 ⟨[330],2,[],[],0⟩ hW fun b3 w1 hfr hK1 hW1=>?_
  have hK:Kept KT w w1:=hK1.mono (by simp)
  have hL1:=hL.kept hK1 (by simp) (by simp) (by simp)
  exact tA (ts1:=[330]) (kArg nsW (.ptr ⟨b,0,none⟩) K) hW1 hK hfr hL1 hzb (hlf tl tu b vk vv at_ w1 rfl hK ((hK1.block b (solid_of hb (by simp))).trans hb) hL1 hzb) (by kernel_rfl) (by kernel_rfl) (fun _ _=>⟨by kernel_rfl,by kernel_rfl,⟨by kernel_rfl,fun _=>by kernel_rfl,by kernel_rfl,by kernel_rfl,fun _=>by kernel_rfl,by kernel_rfl,by kernel_rfl⟩⟩)
theorem rSkip {k:Nat} (hk:k=5∨k=6) (r:Nat) (at_:Int) (w:World) (hp:LOpen s lb nb P lo up sm lg r at_ (nbV nb) r w) {at':Int} {R:Ending→World→Prop} (hlf:LfC k nsW P lo up sm lg r at' none w (· =at_)) (hsk:SkC s lb nb P lo up sm lg k r at' w R):
  Calls Tryz.prog (fnN k) (SV.denL [lb,nb] (kArg nsW (.p 0 0) k)).toArray w R:=by
 obtain ⟨tl,tu,b,vk,vv,hs,hb,hL,hzb⟩:=hp
 let K:=k
 have hf:=fn_ok (k:=k) (by omega)
 rcases hk with rfl|rfl
 all_goals
  refine gs (bs:=[lb,nb]) (kArg nsW (.p 0 0) K) (HI s nb tl tu b r) hf hs (fun hW=>?_)
  refine gr1 (bs:=[lb,nb]) 200 ⟨[330],2,[],[],0⟩ hW fun b3 w1 hfr hK1 hW1=>?_
  have hK:Kept KT w w1:=hK1.mono (by simp)
  have hL1:=hL.kept hK1 (by simp) (by simp) (by simp)
  exact tN (ts1:=[330]) (kArg nsW (.ptr ⟨b,0,none⟩) K) (skN K) hW1 hK hfr hL1 hzb (hlf tl tu b vk vv at_ w1 rfl hK ((hK1.block b (solid_of hb (by simp))).trans hb) hL1 hzb) (by kernel_rfl) (by kernel_rfl) hsk ⟨by kernel_rfl,by kernel_rfl,by kernel_rfl,fun _=>by kernel_rfl,fun _ _ _ _ _ _ _=>⟨by kernel_rfl,by kernel_rfl,⟨by kernel_rfl,fun _=>by kernel_rfl,by kernel_rfl,by kernel_rfl,fun _=>by kernel_rfl,by kernel_rfl,by kernel_rfl⟩⟩⟩
theorem mv0 (hn1:1≤s.n) (hn:s.n≤10) (nv:V1) (pos:Int) (w:World): ∀ (tl tu it fi:V1) (w1:World),Kept [330] w w1→Sat [lb,nb] (HV s tl tu (o1 it) (o1 fi) (o1 nv) pos) w1→Calls Tryz.prog 106 #[.pointer (some ⟨lb,31,none⟩)] w1 fun e w'=>e=.returned (.pointer (some ⟨s.fl 0,0,none⟩))∧Kept [330] w1 w'∧Sat [lb,nb] (HW s nb tl tu it fi (0:Nat)) w':=
 fun tl tu it fi w1 _ h=>mv106 s hn1 hn lb nb nv pos w1 tl tu it fi h
theorem mv1 (hn1:1≤s.n) (hn:s.n≤10) (nv:V1) (pos:Int) (w:World): ∀ (tl tu it fi:V1) (w1:World),Kept [330] w w1→Sat [lb,nb] (HV s tl tu (o1 it) (o1 fi) (o1 nv) pos) w1→Calls Tryz.prog 253 #[.pointer (some ⟨lb,31,none⟩)] w1 fun e w'=>e=.returned (.pointer (some ⟨s.fl (s.n - 1),0,none⟩))∧Kept [330] w1 w'∧Sat [lb,nb] (HW s nb tl tu it fi (s.n - 1:Nat)) w':=by
 rw [show ((s.n - 1:Nat):Int)=(s.n:Int) - 1 by omega]
 exact fun tl tu it fi w1 _ h=>mv253 s hn1 hn lb nb nv pos w1 tl tu it fi h
variable {s lb nb P fm lo up sm lg} in
theorem mv2 (hn1:1≤s.n) (hn:s.n≤10) {kv:V1} {key:List UInt8} {w:World} (he:LEnv s lb nb P fm lo up sm lg w) (hk:RdS w kv.1 key) {r:Nat} (hr:r < s.n) (hth: ∀ i,i < s.n→(r≤i↔Lib.compareBytes (lg i) key≥0)) (nv:V1) (pos:Int): ∀ (tl tu it fi:V1) (w1:World),Kept [330] w w1→Sat [lb,nb] (HV s tl tu (o1 it) (o1 fi) (o1 nv) pos) w1→Calls Tryz.prog 256 #[.pointer (some ⟨lb,0,none⟩),kv.1,.int .u8 0] w1 fun e w'=>e=.returned (.pointer (some ⟨s.fl r,0,none⟩))∧Kept [330] w1 w'∧Sat [lb,nb] (HW s nb tl tu it fi r) w':=
 fun tl tu it fi w1 hK h=>c256_f s hn1 hn fm sm lg kv key r hr hth tl tu it fi nv pos lb nb w1 (he.files.kept hK) (hk.kept hK (by simp)) (he.kinds r hr) (h.file (by kernel_rfl) (by kernel_rfl) ((he.files.kept hK) r hr).1 ((he.files.kept hK) r hr).2.2.2)
variable {s lb nb P fm lo up sm lg} in
theorem mv3 (hn1:1≤s.n) (hn:s.n≤10) {kv:V1} {key:List UInt8} {w:World} (he:LEnv s lb nb P fm lo up sm lg w) (hk:RdS w kv.1 key) {r:Nat} (hr:r < s.n) (hth: ∀ i,i < s.n→(r+1≤i↔Lib.compareBytes (sm i) key≥0)) (nv:V1) (pos:Int): ∀ (tl tu it fi:V1) (w1:World),Kept [330] w w1→Sat [lb,nb] (HV s tl tu (o1 it) (o1 fi) (o1 nv) pos) w1→Calls Tryz.prog 258 #[.pointer (some ⟨lb,0,none⟩),kv.1,.int .u8 0] w1 fun e w'=>e=.returned (.pointer (some ⟨s.fl r,0,none⟩))∧Kept [330] w1 w'∧Sat [lb,nb] (HW s nb tl tu it fi r) w':=
 fun tl tu it fi w1 hK h=>c258_f s hn1 hn fm sm lg kv key r hr hth tl tu it fi nv pos lb nb w1 (he.files.kept hK) (hk.kept hK (by simp)) (h.file (by kernel_rfl) (by kernel_rfl) ((he.files.kept hK) r hr).1 ((he.files.kept hK) r hr).2.2.2)
theorem c240_out (hn1:1≤s.n) (hn:s.n≤10) (hI:itbI lo up (sm 0) (lg 0)=1) (hPn: ∀ i,i < s.n→(P i).length≤2^31) (w:World) (he:LEnv s lb nb P fm lo up sm lg w) (nv:V1) (pos:Int) (hp:LPre s lb nb P lo up sm lg nv pos w):
  Calls Tryz.prog 240 #[.pointer (some ⟨lb,0,none⟩)] w (ONone s lb nb P lo up sm lg w):=
 cOut s lb nb P fm lo up sm lg (k:=0) (by omega) nsW (some (s.fl 0)) (0:Nat) (nbV (s.fl 0)) w he nv pos hp (.inr ⟨0,(by omega),rfl⟩) (mv0 s lb nb hn1 hn nv pos w) (fun w3 he3 hp3=>c250_up s lb nb P fm lo up sm lg (nbV nb) (0:Nat) 0 (by omega) w3 he3 hp3 hI)
theorem c240_hit (hn1:1≤s.n) (hn:s.n≤10) (hI:itbI lo up (sm 0) (lg 0)=0) (hPn: ∀ i,i < s.n→(P i).length≤2^31) (hB:lBehind (P 0) (tuB up (lg 0)) 0=false) (p:Nat) (hp0:0=(p:Int)) (w:World) (he:LEnv s lb nb P fm lo up sm lg w) (nv:V1) (pos:Int) (hp:LPre s lb nb P lo up sm lg nv pos w):
  Calls Tryz.prog 240 #[.pointer (some ⟨lb,0,none⟩)] w (OSome s lb nb P lo up sm lg 0 p w):=
 cHit s lb nb P fm lo up sm lg (k:=0) (by omega) nsW 0 (by omega) hI p w he nv pos hp (mv0 s lb nb hn1 hn nv pos w) (fun tl tu b vk vv a w5 _ hK hb hL hz=>by obtain rfl:0=p:=(by omega);have:=c208 b vk vv tl.1 tu.1 a (P 0) (tlB lo (sm 0)) (tuB up (lg 0)) w5 hb hL hz;rw [if_neg (by rw [hB];decide)] at this;exact this)
theorem c241_out (hn1:1≤s.n) (hn:s.n≤10) (hI:itbI lo up (sm (s.n - 1)) (lg (s.n - 1))= -1) (hPn: ∀ i,i < s.n→(P i).length≤2^31) (w:World) (he:LEnv s lb nb P fm lo up sm lg w) (nv:V1) (pos:Int) (hp:LPre s lb nb P lo up sm lg nv pos w):
  Calls Tryz.prog 241 #[.pointer (some ⟨lb,0,none⟩)] w (ONone s lb nb P lo up sm lg w):=
 cOut s lb nb P fm lo up sm lg (k:=1) (by omega) nsW (some (s.fl (s.n - 1))) ((s.n - 1):Nat) (nbV (s.fl (s.n - 1))) w he nv pos hp (.inr ⟨(s.n - 1),(by omega),rfl⟩) (mv1 s lb nb hn1 hn nv pos w) (fun w3 he3 hp3=>c250_lo s lb nb P fm lo up sm lg (nbV nb) ((s.n - 1):Nat) (s.n - 1) (by omega) w3 he3 hp3 hI)
theorem c241_hit (hn1:1≤s.n) (hn:s.n≤10) (hI:itbI lo up (sm (s.n - 1)) (lg (s.n - 1))=0) (hPn: ∀ i,i < s.n→(P i).length≤2^31) (hB:lAhead (P (s.n - 1)) (tlB lo (sm (s.n - 1))) (((P (s.n - 1)).length:Int) - 1)=false) (p:Nat) (hp0:(((P (s.n - 1)).length:Int) - 1)=(p:Int)) (w:World) (he:LEnv s lb nb P fm lo up sm lg w) (nv:V1) (pos:Int) (hp:LPre s lb nb P lo up sm lg nv pos w):
  Calls Tryz.prog 241 #[.pointer (some ⟨lb,0,none⟩)] w (OSome s lb nb P lo up sm lg (s.n - 1) p w):=
 cHit s lb nb P fm lo up sm lg (k:=1) (by omega) nsW (s.n - 1) (by omega) hI p w he nv pos hp (mv1 s lb nb hn1 hn nv pos w) (fun tl tu b vk vv a w5 _ hK hb hL hz=>by have:=c209 b vk vv tl.1 tu.1 a (P (s.n - 1)) (tlB lo (sm (s.n - 1))) (tuB up (lg (s.n - 1))) w5 hb hL hz;rw [if_neg (by rw [hB];decide),hp0,show ((P (s.n - 1)).length - 1)=p by omega] at this;exact this)
theorem c245_none (hn1:1≤s.n) (hn:s.n≤10) (kv:V1) (key:List UInt8) (hth: ∀ i,i < s.n→(s.n≤i↔Lib.compareBytes (lg i) key≥0)) (hPn: ∀ i,i < s.n→(P i).length≤2^31) (w:World) (he:LEnv s lb nb P fm lo up sm lg w) (nv:V1) (pos:Int) (hp:LPre s lb nb P lo up sm lg nv pos w) (hk:RdS w kv.1 key):
  Calls Tryz.prog 245 #[.pointer (some ⟨lb,0,none⟩),kv.1,.int .u8 0] w (ONone s lb nb P lo up sm lg w):=
 cOut s lb nb P fm lo up sm lg (k:=2) (by omega) kv none s.n npV w he nv pos hp (.inl rfl) (fun tl tu it fi w1 hK h=>c256_n s hn1 hn fm sm lg kv key hth tl tu it fi nv pos lb nb w1 (he.files.kept hK) (hk.kept hK (by simp)) h) (fun w3 _ hp3=>c250_nil s lb nb P lo up sm lg (nbV nb) s.n ⟨.int .i64 1,rfl⟩ w3 hp3)
theorem c245_out (hn1:1≤s.n) (hn:s.n≤10) (kv:V1) (key:List UInt8) (r:Nat) (hr:r < s.n) (hth: ∀ i,i < s.n→(r≤i↔Lib.compareBytes (lg i) key≥0)) (hI:itbI lo up (sm r) (lg r)=1) (hPn: ∀ i,i < s.n→(P i).length≤2^31) (w:World) (he:LEnv s lb nb P fm lo up sm lg w) (nv:V1) (pos:Int) (hp:LPre s lb nb P lo up sm lg nv pos w) (hk:RdS w kv.1 key):
  Calls Tryz.prog 245 #[.pointer (some ⟨lb,0,none⟩),kv.1,.int .u8 0] w (ONone s lb nb P lo up sm lg w):=
 cOut s lb nb P fm lo up sm lg (k:=2) (by omega) kv (some (s.fl r)) (r:Nat) (nbV (s.fl r)) w he nv pos hp (.inr ⟨r,hr,rfl⟩) (mv2 hn1 hn he hk hr hth nv pos) (fun w3 he3 hp3=>c250_up s lb nb P fm lo up sm lg (nbV nb) (r:Nat) r hr w3 he3 hp3 hI)
theorem c245_hit (hn1:1≤s.n) (hn:s.n≤10) (kv:V1) (key:List UInt8) (r:Nat) (hr:r < s.n) (hth: ∀ i,i < s.n→(r≤i↔Lib.compareBytes (lg i) key≥0)) (hI:itbI lo up (sm r) (lg r)=0) (hPn: ∀ i,i < s.n→(P i).length≤2^31) (hB:lBehind (P r) (tuB up (lg r)) ((lSeek (P r) key:Nat):Int)=false) (p:Nat) (hp0:((lSeek (P r) key:Nat):Int)=(p:Int)) (w:World) (he:LEnv s lb nb P fm lo up sm lg w) (nv:V1) (pos:Int) (hp:LPre s lb nb P lo up sm lg nv pos w) (hk:RdS w kv.1 key):
  Calls Tryz.prog 245 #[.pointer (some ⟨lb,0,none⟩),kv.1,.int .u8 0] w (OSome s lb nb P lo up sm lg r p w):=
 cHit s lb nb P fm lo up sm lg (k:=2) (by omega) kv r hr hI p w he nv pos hp (mv2 hn1 hn he hk hr hth nv pos) (fun tl tu b vk vv a w5 _ hK hb hL hz=>by have:=c213 b vk vv tl.1 tu.1 kv.1 a (P r) (tlB lo (sm r)) (tuB up (lg r)) key w5 hb hL (hk.kept hK (by simp)) (hPn _ hr) hz;rw [if_neg (by rw [hB];decide),hp0,show (lSeek (P r) key)=p by omega] at this;exact this)
theorem c245_n (hn1:1≤s.n) (hn:s.n≤10) (kv:V1) (key:List UInt8) (r:Nat) (hr:r < s.n) (hth: ∀ i,i < s.n→(r≤i↔Lib.compareBytes (lg i) key≥0)) (hI:itbI lo up (sm r) (lg r)=0) (hPn: ∀ i,i < s.n→(P i).length≤2^31) (hB:lBehind (P r) (tuB up (lg r)) ((lSeek (P r) key:Nat):Int)=true) (hi1:r+1=s.n) (w:World) (he:LEnv s lb nb P fm lo up sm lg w) (nv:V1) (pos:Int) (hp:LPre s lb nb P lo up sm lg nv pos w) (hk:RdS w kv.1 key):
  Calls Tryz.prog 245 #[.pointer (some ⟨lb,0,none⟩),kv.1,.int .u8 0] w (ONone s lb nb P lo up sm lg w):=
 cSkip s lb nb P fm lo up sm lg (k:=2) (by omega) kv r hr hI w he nv pos hp (mv2 hn1 hn he hk hr hth nv pos) (fun tl tu b vk vv a w5 _ hK hb hL hz=>by have:=c213 b vk vv tl.1 tu.1 kv.1 a (P r) (tlB lo (sm r)) (tuB up (lg r)) key w5 hb hL (hk.kept hK (by simp)) (hPn _ hr) hz;rw [if_pos hB] at this;exact this) (fun w7 hK hL=>(c252_n s hn1 hn lb nb P fm lo up sm lg r hr ((lSeek (P r) key:Nat):Int) hi1 w7 (he.kept hK) hI hL).mono fun e w8 h=>skShut h (.inl rfl))
theorem c245_o (hn1:1≤s.n) (hn:s.n≤10) (kv:V1) (key:List UInt8) (r:Nat) (hr:r < s.n) (hth: ∀ i,i < s.n→(r≤i↔Lib.compareBytes (lg i) key≥0)) (hI:itbI lo up (sm r) (lg r)=0) (hPn: ∀ i,i < s.n→(P i).length≤2^31) (hB:lBehind (P r) (tuB up (lg r)) ((lSeek (P r) key:Nat):Int)=true) (j:Nat) (hj:j=r+1) (hjn:j < s.n) (hJ:itbI lo up (sm j) (lg j)=1) (w:World) (he:LEnv s lb nb P fm lo up sm lg w) (nv:V1) (pos:Int) (hp:LPre s lb nb P lo up sm lg nv pos w) (hk:RdS w kv.1 key):
  Calls Tryz.prog 245 #[.pointer (some ⟨lb,0,none⟩),kv.1,.int .u8 0] w (ONone s lb nb P lo up sm lg w):=
 cSkip s lb nb P fm lo up sm lg (k:=2) (by omega) kv r hr hI w he nv pos hp (mv2 hn1 hn he hk hr hth nv pos) (fun tl tu b vk vv a w5 _ hK hb hL hz=>by have:=c213 b vk vv tl.1 tu.1 kv.1 a (P r) (tlB lo (sm r)) (tuB up (lg r)) key w5 hb hL (hk.kept hK (by simp)) (hPn _ hr) hz;rw [if_pos hB] at this;exact this) (fun w7 hK hL=>(c252_o s hn1 hn lb nb P fm lo up sm lg r hr ((lSeek (P r) key:Nat):Int) j hj hjn hJ w7 (he.kept hK) hI hL).mono fun e w8 h=>skShut h (.inr ⟨j,hjn,rfl⟩))
theorem c246_none (hn1:1≤s.n) (hn:s.n≤10) (kv:V1) (key:List UInt8) (hth: ∀ i,i < s.n→(0≤i↔Lib.compareBytes (sm i) key≥0)) (hPn: ∀ i,i < s.n→(P i).length≤2^31) (w:World) (he:LEnv s lb nb P fm lo up sm lg w) (nv:V1) (pos:Int) (hp:LPre s lb nb P lo up sm lg nv pos w) (hk:RdS w kv.1 key):
  Calls Tryz.prog 246 #[.pointer (some ⟨lb,0,none⟩),kv.1,.int .u8 0] w (ONone s lb nb P lo up sm lg w):=
 cOut s lb nb P fm lo up sm lg (k:=3) (by omega) kv none (-1) npV w he nv pos hp (.inl rfl) (fun tl tu it fi w1 hK h=>c258_n s hn1 hn fm sm lg kv key hth tl tu it fi nv pos lb nb w1 (he.files.kept hK) (hk.kept hK (by simp)) h) (fun w3 _ hp3=>c250_nil s lb nb P lo up sm lg (nbV nb) (-1) ⟨.int .i64 (-1),rfl⟩ w3 hp3)
theorem c246_out (hn1:1≤s.n) (hn:s.n≤10) (kv:V1) (key:List UInt8) (r:Nat) (hr:r < s.n) (hth: ∀ i,i < s.n→(r+1≤i↔Lib.compareBytes (sm i) key≥0)) (hI:itbI lo up (sm r) (lg r)= -1) (hPn: ∀ i,i < s.n→(P i).length≤2^31) (w:World) (he:LEnv s lb nb P fm lo up sm lg w) (nv:V1) (pos:Int) (hp:LPre s lb nb P lo up sm lg nv pos w) (hk:RdS w kv.1 key):
  Calls Tryz.prog 246 #[.pointer (some ⟨lb,0,none⟩),kv.1,.int .u8 0] w (ONone s lb nb P lo up sm lg w):=
 cOut s lb nb P fm lo up sm lg (k:=3) (by omega) kv (some (s.fl r)) (r:Nat) (nbV (s.fl r)) w he nv pos hp (.inr ⟨r,hr,rfl⟩) (mv3 hn1 hn he hk hr hth nv pos) (fun w3 he3 hp3=>c250_lo s lb nb P fm lo up sm lg (nbV nb) (r:Nat) r hr w3 he3 hp3 hI)
theorem c246_hit (hn1:1≤s.n) (hn:s.n≤10) (kv:V1) (key:List UInt8) (r:Nat) (hr:r < s.n) (hth: ∀ i,i < s.n→(r+1≤i↔Lib.compareBytes (sm i) key≥0)) (hI:itbI lo up (sm r) (lg r)=0) (hPn: ∀ i,i < s.n→(P i).length≤2^31) (hB:lAhead (P r) (tlB lo (sm r)) ((lSeek (P r) key:Nat) - 1:Int)=false) (p:Nat) (hp0:((lSeek (P r) key:Nat) - 1:Int)=(p:Int)) (w:World) (he:LEnv s lb nb P fm lo up sm lg w) (nv:V1) (pos:Int) (hp:LPre s lb nb P lo up sm lg nv pos w) (hk:RdS w kv.1 key):
  Calls Tryz.prog 246 #[.pointer (some ⟨lb,0,none⟩),kv.1,.int .u8 0] w (OSome s lb nb P lo up sm lg r p w):=
 cHit s lb nb P fm lo up sm lg (k:=3) (by omega) kv r hr hI p w he nv pos hp (mv3 hn1 hn he hk hr hth nv pos) (fun tl tu b vk vv a w5 _ hK hb hL hz=>by have:=c214 b vk vv tl.1 tu.1 kv.1 a (P r) (tlB lo (sm r)) (tuB up (lg r)) key w5 hb hL (hk.kept hK (by simp)) (hPn _ hr) hz;rw [if_neg (by rw [hB];decide),hp0,show (lSeek (P r) key - 1)=p by omega] at this;exact this)
theorem c246_n (hn1:1≤s.n) (hn:s.n≤10) (kv:V1) (key:List UInt8) (r:Nat) (hr:r < s.n) (hth: ∀ i,i < s.n→(r+1≤i↔Lib.compareBytes (sm i) key≥0)) (hI:itbI lo up (sm r) (lg r)=0) (hPn: ∀ i,i < s.n→(P i).length≤2^31) (hB:lAhead (P r) (tlB lo (sm r)) ((lSeek (P r) key:Nat) - 1:Int)=true) (hi1:r=0) (w:World) (he:LEnv s lb nb P fm lo up sm lg w) (nv:V1) (pos:Int) (hp:LPre s lb nb P lo up sm lg nv pos w) (hk:RdS w kv.1 key):
  Calls Tryz.prog 246 #[.pointer (some ⟨lb,0,none⟩),kv.1,.int .u8 0] w (ONone s lb nb P lo up sm lg w):=
 cSkip s lb nb P fm lo up sm lg (k:=3) (by omega) kv r hr hI w he nv pos hp (mv3 hn1 hn he hk hr hth nv pos) (fun tl tu b vk vv a w5 _ hK hb hL hz=>by have:=c214 b vk vv tl.1 tu.1 kv.1 a (P r) (tlB lo (sm r)) (tuB up (lg r)) key w5 hb hL (hk.kept hK (by simp)) (hPn _ hr) hz;rw [if_pos hB] at this;exact this) (fun w7 hK hL=>(c254_n s hn1 hn lb nb P fm lo up sm lg r hr ((lSeek (P r) key:Nat) - 1:Int) hi1 w7 (he.kept hK) hI hL).mono fun e w8 h=>skShut h (.inl rfl))
theorem c246_o (hn1:1≤s.n) (hn:s.n≤10) (kv:V1) (key:List UInt8) (r:Nat) (hr:r < s.n) (hth: ∀ i,i < s.n→(r+1≤i↔Lib.compareBytes (sm i) key≥0)) (hI:itbI lo up (sm r) (lg r)=0) (hPn: ∀ i,i < s.n→(P i).length≤2^31) (hB:lAhead (P r) (tlB lo (sm r)) ((lSeek (P r) key:Nat) - 1:Int)=true) (j:Nat) (hj:r=j+1) (hjn:j < s.n) (hJ:itbI lo up (sm j) (lg j)= -1) (w:World) (he:LEnv s lb nb P fm lo up sm lg w) (nv:V1) (pos:Int) (hp:LPre s lb nb P lo up sm lg nv pos w) (hk:RdS w kv.1 key):
  Calls Tryz.prog 246 #[.pointer (some ⟨lb,0,none⟩),kv.1,.int .u8 0] w (ONone s lb nb P lo up sm lg w):=
 cSkip s lb nb P fm lo up sm lg (k:=3) (by omega) kv r hr hI w he nv pos hp (mv3 hn1 hn he hk hr hth nv pos) (fun tl tu b vk vv a w5 _ hK hb hL hz=>by have:=c214 b vk vv tl.1 tu.1 kv.1 a (P r) (tlB lo (sm r)) (tuB up (lg r)) key w5 hb hL (hk.kept hK (by simp)) (hPn _ hr) hz;rw [if_pos hB] at this;exact this) (fun w7 hK hL=>(c254_o s hn1 hn lb nb P fm lo up sm lg r hr ((lSeek (P r) key:Nat) - 1:Int) j hj hjn hJ w7 (he.kept hK) hI hL).mono fun e w8 h=>skShut h (.inr ⟨j,hjn,rfl⟩))
theorem c242_hit (hn1:1≤s.n) (hn:s.n≤10) (r:Nat) (hr:r < s.n) (at_:Nat) (hat:at_ < (P r).length) (hI:itbI lo up (sm r) (lg r)=0) (hPn: ∀ i,i < s.n→(P i).length≤2^31) (hB:lBehind (P r) (tuB up (lg r)) (lNext (P r) (tuB up (lg r)) at_)=false) (p:Nat) (hp0:(lNext (P r) (tuB up (lg r)) at_)=(p:Int)) (w:World) (he:LEnv s lb nb P fm lo up sm lg w) (hp:LOpen s lb nb P lo up sm lg r at_ (nbV nb) r w):
  Calls Tryz.prog 242 #[.pointer (some ⟨lb,0,none⟩)] w (OSome s lb nb P lo up sm lg r p w):=
 rHit s lb nb P lo up sm lg (k:=5) (by omega) r p at_ w hp (fun tl tu b vk vv a w5 ha hK hb hL hz=>by subst ha;have:=c210 b vk vv tl.1 tu.1 at_ (P r) (tlB lo (sm r)) (tuB up (lg r)) w5 hb hL (by omega) (by omega) (hPn _ hr) hz;rw [if_neg (by rw [hB];decide),hp0,Int.toNat_natCast] at this;exact this)
theorem c242_n (hn1:1≤s.n) (hn:s.n≤10) (r:Nat) (hr:r < s.n) (at_:Nat) (hat:at_ < (P r).length) (hI:itbI lo up (sm r) (lg r)=0) (hPn: ∀ i,i < s.n→(P i).length≤2^31) (hB:lBehind (P r) (tuB up (lg r)) (lNext (P r) (tuB up (lg r)) at_)=true) (hi1:r+1=s.n) (w:World) (he:LEnv s lb nb P fm lo up sm lg w) (hp:LOpen s lb nb P lo up sm lg r at_ (nbV nb) r w):
  Calls Tryz.prog 242 #[.pointer (some ⟨lb,0,none⟩)] w (ONone s lb nb P lo up sm lg w):=
 rSkip s lb nb P lo up sm lg (k:=5) (by omega) r at_ w hp (fun tl tu b vk vv a w5 ha hK hb hL hz=>by subst ha;have:=c210 b vk vv tl.1 tu.1 at_ (P r) (tlB lo (sm r)) (tuB up (lg r)) w5 hb hL (by omega) (by omega) (hPn _ hr) hz;rw [if_pos hB] at this;exact this) (fun w7 hK hL=>(c252_n s hn1 hn lb nb P fm lo up sm lg r hr (lNext (P r) (tuB up (lg r)) at_) hi1 w7 (he.kept hK) hI hL).mono fun e w8 h=>skShut h (.inl rfl))
theorem c242_o (hn1:1≤s.n) (hn:s.n≤10) (r:Nat) (hr:r < s.n) (at_:Nat) (hat:at_ < (P r).length) (hI:itbI lo up (sm r) (lg r)=0) (hPn: ∀ i,i < s.n→(P i).length≤2^31) (hB:lBehind (P r) (tuB up (lg r)) (lNext (P r) (tuB up (lg r)) at_)=true) (j:Nat) (hj:j=r+1) (hjn:j < s.n) (hJ:itbI lo up (sm j) (lg j)=1) (w:World) (he:LEnv s lb nb P fm lo up sm lg w) (hp:LOpen s lb nb P lo up sm lg r at_ (nbV nb) r w):
  Calls Tryz.prog 242 #[.pointer (some ⟨lb,0,none⟩)] w (ONone s lb nb P lo up sm lg w):=
 rSkip s lb nb P lo up sm lg (k:=5) (by omega) r at_ w hp (fun tl tu b vk vv a w5 ha hK hb hL hz=>by subst ha;have:=c210 b vk vv tl.1 tu.1 at_ (P r) (tlB lo (sm r)) (tuB up (lg r)) w5 hb hL (by omega) (by omega) (hPn _ hr) hz;rw [if_pos hB] at this;exact this) (fun w7 hK hL=>(c252_o s hn1 hn lb nb P fm lo up sm lg r hr (lNext (P r) (tuB up (lg r)) at_) j hj hjn hJ w7 (he.kept hK) hI hL).mono fun e w8 h=>skShut h (.inr ⟨j,hjn,rfl⟩))
theorem c242_f (hn1:1≤s.n) (hn:s.n≤10) (r:Nat) (hr:r < s.n) (at_:Nat) (hat:at_ < (P r).length) (hI:itbI lo up (sm r) (lg r)=0) (hPn: ∀ i,i < s.n→(P i).length≤2^31) (hB:lBehind (P r) (tuB up (lg r)) (lNext (P r) (tuB up (lg r)) at_)=true) (j:Nat) (hj:j=r+1) (hjn:j < s.n) (hJ:itbI lo up (sm j) (lg j)=0) (hx:0 < (P j).length) (hB2:lBehind (P j) (tuB up (lg j)) 0=false) (w:World) (he:LEnv s lb nb P fm lo up sm lg w) (hp:LOpen s lb nb P lo up sm lg r at_ (nbV nb) r w):
  Calls Tryz.prog 242 #[.pointer (some ⟨lb,0,none⟩)] w (OSome s lb nb P lo up sm lg j 0 w):=
 rSkip s lb nb P lo up sm lg (k:=5) (by omega) r at_ w hp (fun tl tu b vk vv a w5 ha hK hb hL hz=>by subst ha;have:=c210 b vk vv tl.1 tu.1 at_ (P r) (tlB lo (sm r)) (tuB up (lg r)) w5 hb hL (by omega) (by omega) (hPn _ hr) hz;rw [if_pos hB] at this;exact this) (fun w7 hK hL=>(c252_f s hn1 hn lb nb P fm lo up sm lg r hr (lNext (P r) (tuB up (lg r)) at_) j hj hjn hJ hx hB2 w7 (he.kept hK) hI hL).mono fun e w8 h=>skOpen hx h)
theorem c244_hit (hn1:1≤s.n) (hn:s.n≤10) (r:Nat) (hr:r < s.n) (at_:Nat) (hat:at_ < (P r).length) (hI:itbI lo up (sm r) (lg r)=0) (hPn: ∀ i,i < s.n→(P i).length≤2^31) (hB:lAhead (P r) (tlB lo (sm r)) (lPrev (P r) (tlB lo (sm r)) at_)=false) (p:Nat) (hp0:(lPrev (P r) (tlB lo (sm r)) at_)=(p:Int)) (w:World) (he:LEnv s lb nb P fm lo up sm lg w) (hp:LOpen s lb nb P lo up sm lg r at_ (nbV nb) r w):
  Calls Tryz.prog 244 #[.pointer (some ⟨lb,0,none⟩)] w (OSome s lb nb P lo up sm lg r p w):=
 rHit s lb nb P lo up sm lg (k:=6) (by omega) r p at_ w hp (fun tl tu b vk vv a w5 ha hK hb hL hz=>by subst ha;have:=c212 b vk vv tl.1 tu.1 at_ (P r) (tlB lo (sm r)) (tuB up (lg r)) w5 hb hL (by omega) (by omega) (hPn _ hr) hz;rw [if_neg (by rw [hB];decide),hp0,Int.toNat_natCast] at this;exact this)
theorem c244_n (hn1:1≤s.n) (hn:s.n≤10) (r:Nat) (hr:r < s.n) (at_:Nat) (hat:at_ < (P r).length) (hI:itbI lo up (sm r) (lg r)=0) (hPn: ∀ i,i < s.n→(P i).length≤2^31) (hB:lAhead (P r) (tlB lo (sm r)) (lPrev (P r) (tlB lo (sm r)) at_)=true) (hi1:r=0) (w:World) (he:LEnv s lb nb P fm lo up sm lg w) (hp:LOpen s lb nb P lo up sm lg r at_ (nbV nb) r w):
  Calls Tryz.prog 244 #[.pointer (some ⟨lb,0,none⟩)] w (ONone s lb nb P lo up sm lg w):=
 rSkip s lb nb P lo up sm lg (k:=6) (by omega) r at_ w hp (fun tl tu b vk vv a w5 ha hK hb hL hz=>by subst ha;have:=c212 b vk vv tl.1 tu.1 at_ (P r) (tlB lo (sm r)) (tuB up (lg r)) w5 hb hL (by omega) (by omega) (hPn _ hr) hz;rw [if_pos hB] at this;exact this) (fun w7 hK hL=>(c254_n s hn1 hn lb nb P fm lo up sm lg r hr (lPrev (P r) (tlB lo (sm r)) at_) hi1 w7 (he.kept hK) hI hL).mono fun e w8 h=>skShut h (.inl rfl))
theorem c244_o (hn1:1≤s.n) (hn:s.n≤10) (r:Nat) (hr:r < s.n) (at_:Nat) (hat:at_ < (P r).length) (hI:itbI lo up (sm r) (lg r)=0) (hPn: ∀ i,i < s.n→(P i).length≤2^31) (hB:lAhead (P r) (tlB lo (sm r)) (lPrev (P r) (tlB lo (sm r)) at_)=true) (j:Nat) (hj:r=j+1) (hjn:j < s.n) (hJ:itbI lo up (sm j) (lg j)= -1) (w:World) (he:LEnv s lb nb P fm lo up sm lg w) (hp:LOpen s lb nb P lo up sm lg r at_ (nbV nb) r w):
  Calls Tryz.prog 244 #[.pointer (some ⟨lb,0,none⟩)] w (ONone s lb nb P lo up sm lg w):=
 rSkip s lb nb P lo up sm lg (k:=6) (by omega) r at_ w hp (fun tl tu b vk vv a w5 ha hK hb hL hz=>by subst ha;have:=c212 b vk vv tl.1 tu.1 at_ (P r) (tlB lo (sm r)) (tuB up (lg r)) w5 hb hL (by omega) (by omega) (hPn _ hr) hz;rw [if_pos hB] at this;exact this) (fun w7 hK hL=>(c254_o s hn1 hn lb nb P fm lo up sm lg r hr (lPrev (P r) (tlB lo (sm r)) at_) j hj hjn hJ w7 (he.kept hK) hI hL).mono fun e w8 h=>skShut h (.inr ⟨j,hjn,rfl⟩))
theorem c244_f (hn1:1≤s.n) (hn:s.n≤10) (r:Nat) (hr:r < s.n) (at_:Nat) (hat:at_ < (P r).length) (hI:itbI lo up (sm r) (lg r)=0) (hPn: ∀ i,i < s.n→(P i).length≤2^31) (hB:lAhead (P r) (tlB lo (sm r)) (lPrev (P r) (tlB lo (sm r)) at_)=true) (j:Nat) (hj:r=j+1) (hjn:j < s.n) (hJ:itbI lo up (sm j) (lg j)=0) (hx:0 < (P j).length) (hB2:lAhead (P j) (tlB lo (sm j)) (((P j).length:Int) - 1)=false) (w:World) (he:LEnv s lb nb P fm lo up sm lg w) (hp:LOpen s lb nb P lo up sm lg r at_ (nbV nb) r w):
  Calls Tryz.prog 244 #[.pointer (some ⟨lb,0,none⟩)] w (OSome s lb nb P lo up sm lg j ((P j).length - 1) w):=
 rSkip s lb nb P lo up sm lg (k:=6) (by omega) r at_ w hp (fun tl tu b vk vv a w5 ha hK hb hL hz=>by subst ha;have:=c212 b vk vv tl.1 tu.1 at_ (P r) (tlB lo (sm r)) (tuB up (lg r)) w5 hb hL (by omega) (by omega) (hPn _ hr) hz;rw [if_pos hB] at this;exact this) (fun w7 hK hL=>(c254_f s hn1 hn lb nb P fm lo up sm lg r hr (lPrev (P r) (tlB lo (sm r)) at_) j hj hjn hJ hx hB2 w7 (he.kept hK) hI hL).mono fun e w8 h=>skOpen (p:=(P j).length - 1) (by omega) (by rw [show (((P j).length - 1:Nat):Int)=((P j).length:Int) - 1 by omega];exact h))
end
end Go.Proofs.YtghppnklhbbffaaGreatDoor.X
