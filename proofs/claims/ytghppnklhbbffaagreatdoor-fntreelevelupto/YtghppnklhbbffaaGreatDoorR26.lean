/- Part 26 of the proof that laws.FnTreeLevel answers true, for arguments of small bulk. -/
import Derived.Test.YtghppnklhbbffaaGreatDoorR11
import Derived.Test.YtghppnklhbbffaaGreatDoorR05
import Derived.Test.YtghppnklhbbffaaGreatDoorR25
import Derived.Test.YtghppnklhbbffaaGreatDoorR13
import Derived.Test.YtghppnklhbbffaaGreatDoorR23
set_option linter.all false
set_option maxHeartbeats 4000000
set_option maxRecDepth 100000
namespace Go.Proofs.YtghppnklhbbffaaGreatDoor.TL
open Go Go.RowKit Go.Proofs.YtghppnklhbbffaaGreatDoor.PFnTreeLevel Go.Proofs.YtghppnklhbbffaaGreatDoorW.PrintWords Go.Proofs.YtghppnklhbbffaaGreatDoorW.PrintLast
def wkey1 (lo:ByteArray) (hl:Bool) (k:ByteArray):ByteArray:=if hl&&Op.bytesLess k.toList lo.toList then lo else k
def wkey (lo up:ByteArray) (hl hu:Bool) (k:ByteArray):ByteArray:=
 if hu&&(!Op.bytesLess (wkey1 lo hl k).toList up.toList&&!((wkey1 lo hl k).toList==up.toList)) then up else wkey1 lo hl k
theorem bytesLess_eq [Bd]: ∀ (a b:List UInt8),Op.bytesLess a b=decide (Lib.compareBytes a b < 0)
 |[],[]=>by simp [Op.bytesLess,Lib.compareBytes]
 |[],_::_=>by simp [Op.bytesLess,Lib.compareBytes]
 |_::_,[]=>by simp [Op.bytesLess,Lib.compareBytes]
 |x::a,y::b=>by
  simp only [Op.bytesLess,Lib.compareBytes,bytesLess_eq a b]
  by_cases h1:x < y
  ·simp [h1]
  ·by_cases h2:y < x
   ·have:x≠y:=by rintro rfl;exact h1 h2
    simp [h1,h2,this]
   ·have:x=y:=by
     rw [UInt8.lt_iff_toNat_lt] at h1 h2
     exact UInt8.toNat_inj.1 (by omega)
    simp [h1,h2,this]
theorem less_cmpB [Bd] (a b:ByteArray):Op.bytesLess a.toList b.toList=decide (cmpB a b < 0):=by
 rw [bytesLess_eq,ByteArray.toList_eq,ByteArray.toList_eq];rfl
theorem eqL_cmpB [Bd] (a b:ByteArray):(a.toList==b.toList)=decide (cmpB a b=0):=by
 rw [ByteArray.toList_eq,ByteArray.toList_eq]
 by_cases h:cmpB a b=0
 ·have:=cmpB_eq h
  subst this
  simp [h]
 ·simp only [h,decide_false]
  rw [beq_eq_false_iff_ne]
  intro he
  apply h
  unfold cmpB
  rw [he]
  exact cb_refl _
theorem wkey_cmp [Bd] (lo up:ByteArray) (hl hu:Bool) (k:ByteArray):wkey lo up hl hu k=if hu=true∧0 < cmpB (wkey1 lo hl k) up then up else wkey1 lo hl k:=by
 unfold wkey;rw [less_cmpB,eqL_cmpB]
 have:=cmpB_vals (wkey1 lo hl k) up
 by_cases h:hu=true
 ·subst h
  simp only [Bool.true_and,true_and]
  by_cases h2:0 < cmpB (wkey1 lo hl k) up
  ·rw [if_pos h2,if_pos];simp;omega
  ·rw [if_neg h2,if_neg];simp;omega
 ·simp [h]
theorem c73 [Bd] (lo up:ByteArray) (hl hu:Bool) (k:ByteArray) (w:World):Calls Tryz.prog 73 #[.agg #[.string lo,.bool hl,.string up,.bool hu],.string k] w fun e w'=> ∃ v,e=.returned v∧RdS w' v (bs (wkey lo up hl hu k))∧Ext w w':=by
 have hu45:=Tryz.underlying45
 have hu75:=Tryz.underlying75
 have H:Aside0 (∀ x:ByteArray,x=wkey lo up hl hu k→ ∀ (w1 w2:World) v,RdS w2 v (bs x)→Ext w w2→ ∃ v',(Ending.returned v)=.returned v'∧RdS w2 v' (bs (wkey lo up hl hu k))∧Ext w w2):=⟨by rintro x rfl w1 w2 v h1 h2;exact ⟨v,rfl,h1,h2⟩⟩
 cases hl<;>cases hu
 all_goals go_enter Tryz.func73,Tryz.ntmps73
 all_goals go_wp2_with ((with_reducible refine gate_dst (N:=26) rfl ?_);go_loud (refine conv_ev (N:=26) rfl rfl _ _ rfl (by first|rfl|(go_simp;done)) ?_;rintro g n w1 hr hk;have HR:=Aside0.mk hr;have HE:=Aside0.mk (((Kept.refl [] w).alloc _).trans hk:Ext w w1);clear hr hk))
 all_goals go_ret
 all_goals (refine H.out _ ?_ w w1 _ HR.out HE.out;clear HR HE H;simp_all [wkey,wkey1])
 all_goals (rename_i h;intro h1 h2;rcases h with h|h<;>simp_all)
theorem run_back [Bd] {w:World} {v:Value} {s:List UInt8} (h:RdS w v s):(convert 75 9 v).run Tryz.prog w=.ok (.string ⟨s.toArray⟩) w:=by
 obtain ⟨b,o,c,cs,f,rfl,hb,hc⟩:=h
 exact run_convert_bytes_back w 75 9 5 ⟨b,o,none⟩ c s Tryz.underlying75 Tryz.underlying5 Tryz.underlying9 (fun j hj=>by
  have:=hc j hj
  unfold Addr.add
  split
  ·rename_i h0;subst h0;simpa using this
  ·exact this)
section
variable {ops:Array Oper} {rest:List Oper} {o:Oper} {a:Act} {Q:Exit→Act→World→Prop} {W:World}
theorem back_ev [Bd] {N:Tmp} (hgd:o.guard=none) (_hd:o.dst=some N) (x:Operand) {v:Value} {s:List UInt8} (ho:o.op=.convert 75 9 x) (hx:a.eval x=v) (hr:RdS W v s)
  (h:wpList Tryz.prog ops Q rest (a.put o.dst (.string ⟨s.toArray⟩)) W):wpList Tryz.prog ops Q (o::rest) a W:=by
 refine Kd.event_run (v:=.string ⟨s.toArray⟩) (w1:=W) hgd ?_ h
 unfold execOp
 simp only [ho,hx,Sem.run_bind,run_back hr,Result.andThen_ok,Sem.run_pure]
end
theorem c74 [Bd] (ku:Value) (s:List UInt8) (t:Int) (w:World) (hr:RdS w ku s):Calls Tryz.prog 74 #[.agg #[ku,.int .u64 t]] w fun e w'=>e=.returned (.agg #[.string ⟨s.toArray⟩,.int .u64 t,.string ⟨#[]⟩])∧Ext w w':=by
 have HR:=Lib.hid hr
 obtain ⟨b,o,c,cs,f,rfl, -, -⟩:=hr
 have hu36:=Tryz.underlying36
 have hu182:=Tryz.underlying182
 have hu75:=Tryz.underlying75
 go_enter Tryz.func74,Tryz.ntmps74
 go_wp2_with ((with_reducible refine gate_dst (N:=5) rfl ?_);go_loud (refine back_ev (N:=5) rfl rfl _ rfl (by first|rfl|(go_simp;done)) (HR.out.kept (((Kept.refl [] w).alloc _).alloc _) (by simp)) ?_))
 refine bodyPost_ret (v:=.agg #[.string ⟨s.toArray⟩,.int .u64 t,.string ⟨#[]⟩]) ?_ rfl ?_
 ·rw [results,show Tryz.f74.results= #[.cell 2 36] from rfl]
  go_simp
 ·exact ⟨rfl,by (repeat (first|exact Kept.refl _ _|apply Kept.ktr|apply Kept.kt0|apply Kept.alloc|apply Kept.drew|apply Kept.drewN))⟩
end Go.Proofs.YtghppnklhbbffaaGreatDoor.TL
namespace Go.Proofs.YtghppnklhbbffaaGreatDoor.X
open Go Go.RowKit Go.Proofs.YtghppnklhbbffaaGreatDoor.TL Go.Proofs.YtghppnklhbbffaaGreatDoor.PFnTreeLevel Go.Proofs.YtghppnklhbbffaaGreatDoorW.PrintWords
def inx (G:List S36) (i:Nat):Option Nat:=if i < G.length then some i else none
def lastP (G:List S36):Option Nat:=if G.length=0 then none else some (G.length - 1)
def geP (G:List S36) (key:List UInt8):Option Nat:=inx G (lSeek G key)
def ltP (G:List S36) (key:List UInt8):Option Nat:=if lSeek G key=0 then none else some (lSeek G key - 1)
def nxP (G:List S36) (i:Nat):Option Nat:=inx G (i+1)
def prevP (i:Nat):Option Nat:=if i=0 then none else some (i - 1)
def ARes [Bd] (R:Option Nat→World→Prop) (G:List S36) (o:Option Nat) (w:World) (e:Ending) (w':World):Prop:=
 (∃ v,e=.returned v∧KRes w' (o.bind fun i=>G[i]?) v)∧Kept KT w w'∧R o w'
def inK (lo up:Option (List UInt8)) (key:List UInt8):Prop:=(∀ l,lo=some l→Lib.compareBytes l key≤0)∧(∀ u,up=some u→Lib.compareBytes key u≤0)
structure ItOK [Bd] (lb:Nat) (G:List S36) (lo up:Option (List UInt8)) (R:Option Nat→World→Prop):Prop where
 kept: ∀ p w w',R p w→Kept [224,50] w w'→R p w'
 fst:lo=none→ ∀ p w,R p w→Calls Tryz.prog 240 #[.pointer (some ⟨lb,0,none⟩)] w (ARes R G (inx G 0) w)
 lst:up=none→ ∀ p w,R p w→Calls Tryz.prog 241 #[.pointer (some ⟨lb,0,none⟩)] w (ARes R G (lastP G) w)
 ge: ∀ p w (kv:V1) key,R p w→RdS w kv.1 key→inK lo up key→Calls Tryz.prog 245 #[.pointer (some ⟨lb,0,none⟩),kv.1,.int .u8 0] w (ARes R G (geP G key) w)
 lt: ∀ p w (kv:V1) key,R p w→RdS w kv.1 key→inK lo up key→Calls Tryz.prog 246 #[.pointer (some ⟨lb,0,none⟩),kv.1,.int .u8 0] w (ARes R G (ltP G key) w)
 nxt: ∀ i w,R (some i) w→Calls Tryz.prog 242 #[.pointer (some ⟨lb,0,none⟩)] w (ARes R G (nxP G i) w)
 prv: ∀ i w,R (some i) w→Calls Tryz.prog 244 #[.pointer (some ⟨lb,0,none⟩)] w (ARes R G (prevP i) w)
 err: ∀ p w,R p w→Calls Tryz.prog 239 #[.pointer (some ⟨lb,0,none⟩)] w fun e w'=>e=.returned .nilIface∧Ext w w'
def stepP (G:List S36) (p:Option Nat) (s:S47):Option Nat:=
 if s.f0=0 then inx G 0 else if s.f0=1 then lastP G else if s.f0=4 then geP G (bs s.f1) else if s.f0=5 then ltP G (bs s.f1) else if s.f0=2 then p.bind (nxP G) else if s.f0=3 then p.bind prevP else p
def z50:S50:=⟨z36,false⟩
def foundP (G:List S36) (p:Option Nat):S50:=match p.bind fun i=>G[i]? with
 |none=>z50
 |some x=>⟨x,true⟩
def outP (G:List S36) (p:Option Nat) (s:S47):S50:=if 5 < s.f0 then z50 else foundP G (stepP G p s)
def walkP (G:List S36):Option Nat→List S47→List S50
 |_,[]=>[]
 |p,s::r=>outP G p s::walkP G (stepP G p s) r
def posP (G:List S36) (steps:List S47) (j:Nat):Option Nat:=(steps.take j).foldl (stepP G) none
def cells50 (x:S50):List Value:=[.string x.f0.f0,.int .u64 x.f0.f1,.string x.f0.f2,.bool x.f1]
theorem RK.at47 [Bd] {w:World} {v:Value} {xs:List S47} (h:RK k47 47 w v xs): ∃ A c,v=.slice A xs.length c∧xs.length≤c∧ ∀ i (hi:i < xs.length), ∃ ad,A=some ad∧w.cell? (ad.add (i*2))=some (.int .u8 xs[i].f0)∧w.cell? ((ad.add (i*2)).add 1)=some (.string xs[i].f1):=by
 obtain ⟨A,c,h1,h2,h3⟩:=h.reads
 refine ⟨A,c,h1,h2,fun i hi=>?_⟩
 obtain ⟨ad,e1,g1,g2⟩:=at_T47 h3 (i:Int) (by omega) (by omega)
 have e:rd_T47 xs (i:Int)=xs[i]:=by unfold rd_T47;simp [List.getD_eq_getElem?_getD,hi]
 rw [e] at g1 g2
 exact ⟨ad,e1,g1,g2⟩
theorem go_reT [Bd] {P:Program} {Q:Exit→Act→World→Prop} {bs:List Nat} {w:World} {s:ST} (T':List SV) (hT:SV.denL bs s.T=SV.denL bs T') (hs:Wk bs s w)
  (hk:Wk bs ⟨s.K,T',s.H,s.ob⟩ w→kx P Q (⟨s.K,T',s.H,s.ob⟩:ST).K .normal (actS bs (⟨s.K,T',s.H,s.ob⟩:ST).T) w):kx P Q s.K .normal (actS bs s.T) w:=by
 have e:actS bs s.T=actS bs T':=by unfold actS;rw [hT]
 rw [e]
 exact hk ⟨hs.sat,hs.pre⟩
theorem rdO_one [Bd] {w:World} {v:Value} {o:Option (List UInt8)} (h:RdO w v o):v.oneCell'=true:=by
 cases o with
 |none=>have h:v=.slice none 0 0:=h;rw [h];rfl
 |some s=>obtain ⟨b,o,c,cs,f,hv,_⟩:=(h:RdS w v s);rw [hv];rfl
abbrev bV (b:Bool):V1:=⟨.bool b,rfl⟩
abbrev sV (s:ByteArray):V1:=⟨.string s,rfl⟩
abbrev B45 (lo up:ByteArray) (hl hu:Bool):List SV:=[o1 (sV lo),o1 (bV hl),o1 (sV up),o1 (bV hu)]
noncomputable def S24 (lb:Nat) (lo up:ByteArray) (hl hu:Bool) (A:Addr) (n c:Nat) (lv uv:V1):ST:=
 runS Tryz.prog ⟨[],1,[],[],0⟩ 200 (afterC (runS Tryz.prog ⟨[],0,[],[],0⟩ 200 (startS Tryz.f24 [.ifc 236 (.ptr ⟨lb,0,none⟩),.agg (B45 lo up hl hu),.bl true,.sl A n c] [])) (.tup [o1 lv,o1 uv]) [⟨45,B45 lo up hl hu⟩])
def keep24 (lb:Nat) (A:Addr) (n c:Nat) (lv uv:SV) (ov:V1) (b:Bool) (j:Int):List (Nat×SV):=[(0,.ifc 236 (.ptr ⟨lb,0,none⟩)),(2,.bl true),(5,.p 0 0),(10,lv),(11,uv),(12,o1 ov),(13,.bl b),(14,.bl b),(27,.sl A n c),(28,.si .i64 n),(29,.si .i64 j)]
def T24 (lb:Nat) (A:Addr) (n c:Nat) (lv uv:SV) (ov:V1) (b:Bool) (j:Int) (xs:Nat→Value):List SV:=mkT 172 (keep24 lb A n c lv uv ov b j) xs
def I24 [Bd] (lb:Nat) (lo up:ByteArray) (hl hu:Bool) (A:Addr) (n c:Nat) (steps:List S47) (G:List S36) (R:Option Nat→World→Prop) (lv uv ov:V1) (w0:World) (j:Nat) (w:World):Prop:=
 R (posP G steps j) w∧w.ownsRow Bd.B 50 4 ov.1 j ((walkP G none (steps.take j)).flatMap cells50)∧RdO w lv.1 (opt hl lo)∧RdO w uv.1 (opt hu up)∧RK k47 47 w (.slice (some A) n c) steps∧Kept [330,266,224,50] w0 w
def J24 [Bd] (lb:Nat) (lo up:ByteArray) (hl hu:Bool) (A:Addr) (n c:Nat) (steps:List S47) (G:List S36) (R:Option Nat→World→Prop) (lv uv:V1) (bb:Nat) (w0:World) (m:Nat) (bs:List Nat) (T:List SV) (H:List SB) (w:World):Prop:=
 ∃ (j:Nat) (xs:Nat→Value) (ov:V1),j≤n∧m+j=n∧bs=[bb]∧T=T24 lb A n c (o1 lv) (o1 uv) ov (posP G steps j).isSome j xs∧H=[⟨45,B45 lo up hl hu⟩]∧I24 lb lo up hl hu A n c steps G R lv uv ov w0 j w
theorem rdS_one [Bd] {w:World} {v:Value} {s:List UInt8} (h:RdS w v s):v.oneCell'=true:=by
 obtain ⟨b,o,c,cs,f,hv,_⟩:=h;rw [hv];rfl
theorem mkT_denD [Bd] {bs:List Nat} {T:List SV} {N:Nat} {keep:List (Nat×SV)} (hl:T.length=N) (hk:keep.map (fun p=>(T.getD p.1 .un).den bs)=keep.map (fun p=>p.2.den bs)):
  SV.denL bs T=SV.denL bs (mkT N keep (fun i=>(T.getD i .un).den bs)):=by
 apply List.ext_getElem?
 intro i
 rw [denL_get,denL_get]
 unfold mkT
 rw [List.getElem?_map]
 by_cases hi:i < N
 ·rw [List.getElem?_range hi]
  have hT:T[i]? =some (T.getD i .un):=by
   rw [List.getD_eq_getElem?_getD,List.getElem?_eq_getElem (by omega)];rfl
  rw [hT]
  simp only [Option.map_some]
  cases hq:keep.lookup i with
  |none=>simp only [SV.den]
  |some v=>
   have hm:=lookup_mem hq
   have:(T.getD i .un).den bs=v.den bs:=List.map_inj_left.1 hk (i,v) hm
   simp only [this]
 ·rw [List.getElem?_eq_none (by omega),List.getElem?_eq_none (by simp;omega)]
  rfl
theorem go_cutD [Bd] {P:Program} {Q:Exit→Act→World→Prop} {bs:List Nat} {w:World} {s:ST} (K':List KI) (N:Nat) (keep:List (Nat×SV)) (H':List SB) (hK:s.K=K') (hl:s.T.length=N) (hkeep:keep.map (fun p=>(s.T.getD p.1 .un).den bs)=keep.map (fun p=>p.2.den bs)) (hs:Wk bs s w) (hsat:Sat bs H' w)
  (hk: ∀ xs,Wk bs ⟨K',mkT N keep xs,H',[]⟩ w→kx P Q (⟨K',mkT N keep xs,H',[]⟩:ST).K .normal (actS bs (⟨K',mkT N keep xs,H',[]⟩:ST).T) w):kx P Q s.K .normal (actS bs s.T) w:=by
 have hp:PreK bs K':=hK ▸ hs.pre
 have e:actS bs s.T=actS bs (mkT N keep (fun i=>(s.T.getD i .un).den bs)):=by unfold actS;rw [mkT_denD hl hkeep]
 rw [e,hK]
 exact hk _ ⟨hsat,hp⟩
theorem _root_.Go.Proofs.YtghppnklhbbffaaGreatDoor.TL.Kept.finT [Bd] {us vs:List TypeId} {w a b:World} {bs:List Nat} (h:Kept us w a) (k:Kept vs a b) (f:Far bs a b) (hb: ∀ x∈bs,w.heap.size≤x∨ ∃ c t g,a.heap[x]? =some (.cells c t g)∧t∉vs):Kept us w b:=by
 refine ⟨k.os.trans h.os,k.tape.trans h.tape,k.output.trans h.output,Nat.le_trans h.size k.size,fun i hi=>?_,fun i c t g hc=>?_⟩
 ·have hlt:=hi.lt
  refine Eq.trans ?_ (h.block i hi)
  by_cases hm:i∈bs
  ·rcases hb i hm with h1|⟨c,t,g,h1,h2⟩
   ·omega
   ·exact k.block i (solid_of h1 h2)
  ·exact f i (Nat.lt_of_lt_of_le hlt h.size) hm
 ·obtain ⟨c',h1⟩:=h.ty i c t g hc
  exact k.ty i c' t g h1
theorem go_back [Bd] {Q:Exit→Act→World→Prop} {bs:List Nat} {w:World} {s:ST} (x:Operand) (v:Value) (str:ByteArray) (H:List SB) (h:curOp s=some (.convert 75 9 x)) (hx:(evS s.T x).den bs=v) (hs:Wk bs s w) (hH:s.H=H) (hr:RdS w v (TL.bs str))
  (hk:Wk bs (afterC s (.oc (.string str) rfl) H) w→kx Tryz.prog Q (afterC s (.oc (.string str) rfl) H).K .normal (actS bs (afterC s (.oc (.string str) rfl) H).T) w):kx Tryz.prog Q s.K .normal (actS bs s.T) w:=by
 refine go_op (.convert 75 9 x) h hs w (.oc (.string str) rfl) [] H (.value (.string str)) (fun o ho=>?_) (.inl (by simp only [SV.den])) (by rw [List.append_nil];exact hs.satE H hH) (fun hW=>?_)
 ·have e1:(actS bs s.T).eval x=v:=by rw [ev_den,hx]
  simp only [execOp,ho,e1,Sem.run_bind,run_back hr,Result.andThen,Sem.run_pure]
 ·rw [List.append_nil] at hW
  simpa only [List.append_nil] using hk hW
def opK (j:Nat):List KI→List KI
 | .code (.region _ ops _)::k=>.ops ops (ops.toList.drop j)::k
 |K=>K
noncomputable def K24 (lb:Nat) (lo up:ByteArray) (hl hu:Bool) (A:Addr) (n c:Nat) (lv uv:V1) (q:Act→World→Prop):List KI:=(bodyS (S24 lb lo up hl hu A n c lv uv) q [] []).K
abbrev ze36:SV:=.agg [.str ⟨#[]⟩,.it .u64 0,.str ⟨#[]⟩,.bl false]
abbrev H24 (lo up:ByteArray) (hl hu:Bool) (st:S47) (v1 v2:V1):List SB:=[⟨45,B45 lo up hl hu⟩,⟨47,[.si .u8 st.f0,o1 (sV st.f1)]⟩,⟨224,[o1 v1,o1 v2]⟩]
def E24 [Bd] (lo up:ByteArray) (hl hu:Bool) (A:Addr) (n c:Nat) (steps:List S47) (G:List S36) (R:Option Nat→World→Prop) (lv uv ov:V1) (w0:World) (j:Nat) (w:World):Prop:=
 R (posP G steps (j+1)) w∧w.ownsRow Bd.B 50 4 ov.1 j ((walkP G none (steps.take j)).flatMap cells50)∧RdO w lv.1 (opt hl lo)∧RdO w uv.1 (opt hu up)∧RK k47 47 w (.slice (some A) n c) steps∧Kept [330,266,224,50] w0 w
theorem E24.kept [Bd] {lb:Nat} {lo up:ByteArray} {hl hu:Bool} {A:Addr} {n c:Nat} {steps:List S47} {G:List S36} {R:Option Nat→World→Prop} {lv uv ov:V1} {w0 w w':World} {j:Nat} (h:E24 lo up hl hu A n c steps G R lv uv ov w0 j w) (hit:ItOK lb G (opt hl lo) (opt hu up) R) (hk:Kept [224] w w'):E24 lo up hl hu A n c steps G R lv uv ov w0 j w':=by
 obtain ⟨q1,q2,q3,q4,q5,q6⟩:=h
 exact ⟨hit.kept _ _ _ q1 (hk.mono (by simp)),own_kept q2 hk (by simp),q3.kept hk (by simp),q4.kept hk (by simp),q5.kept hk (by decide),q6.trans (hk.mono (by simp))⟩
theorem bs_back [Bd] (b:ByteArray):(⟨b.data.toList.toArray⟩:ByteArray)=b:=by cases b;simp
theorem walkP_snoc [Bd] (G:List S36) (s:S47): ∀ (l:List S47) (p:Option Nat),walkP G p (l++[s])=walkP G p l++[outP G (l.foldl (stepP G) p) s]
 |[],p=>rfl
 |x::l,p=>by
  show outP G p x::walkP G (stepP G p x) (l++[s])=outP G p x::(walkP G (stepP G p x) l++[outP G (l.foldl (stepP G) (stepP G p x)) s])
  rw [walkP_snoc G s l]
theorem walkP_succ [Bd] (G:List S36) (steps:List S47) (j:Nat) (hj:j < steps.length):(walkP G none (steps.take (j+1))).flatMap cells50=(walkP G none (steps.take j)).flatMap cells50++cells50 (outP G (posP G steps j) steps[j]):=by
 rw [List.take_succ_eq_append_getElem hj,walkP_snoc]
 simp [posP]
noncomputable def KN (K:List KI):List KI:=opK 2 (skK 0 41 [true,true,false,false,true] K)
noncomputable def KX (K:List KI):List KI:=opK 2 (skK 0 32 [true,true,false,true] K)
noncomputable def KS (K:List KI):List KI:=opK 2 (skK 0 42 [true,true,false,false,false] K)
abbrev k44_0:List SB:=[⟨50,[.str ⟨#[]⟩,.it .u64 0,.str ⟨#[]⟩,.bl false]⟩]
theorem mwN [Bd] (lb:Nat) (lo up:ByteArray) (hl hu:Bool) (A:Addr) (n c:Nat) (steps:List S47) (G:List S36) (R:Option Nat→World→Prop) (hit:ItOK lb G (opt hl lo) (opt hu up) R) (lv uv:V1) (bb:Nat) (w0:World) (hn:n < 2^30) (hln:steps.length=n) {Q:Exit→Act→World→Prop} (m j:Nat) (hj:j < n) (hm:m+j=n) (xs:Nat→Value) (ov:V1) (b:Bool) (st:S47) (v1 v2:V1) (sb vb:Nat) (w:World) (hE:E24 lo up hl hu A n c steps G R lv uv ov w0 j w) (ho:outP G (posP G steps j) (steps[j]'(by omega))=z50) (hb:(posP G steps (j+1)).isSome=b)
  (hW:Wk [bb,sb,vb] ⟨KN (K24 lb lo up hl hu A n c lv uv (Hand (J24 lb lo up hl hu A n c steps G R lv uv bb w0) m)),mkT 172 ((151,o1 ov)::(152,ze36)::keep24 lb A n c (o1 lv) (o1 uv) ov b j) xs,H24 lo up hl hu st v1 v2,[]⟩ w):
  kx Tryz.prog Q (KN (K24 lb lo up hl hu A n c lv uv (Hand (J24 lb lo up hl hu A n c steps G R lv uv bb w0) m))) .normal (actS [bb,sb,vb] (mkT 172 ((151,o1 ov)::(152,ze36)::keep24 lb A n c (o1 lv) (o1 uv) ov b j) xs)) w:=by
 refine go_bslice (s:=⟨KN (K24 lb lo up hl hu A n c lv uv (Hand (J24 lb lo up hl hu A n c steps G R lv uv bb w0) m)),mkT 172 ((151,o1 ov)::(152,ze36)::keep24 lb A n c (o1 lv) (o1 uv) ov b j) xs,H24 lo up hl hu st v1 v2,[]⟩) 37 50 4 (.tmp 152) [.str ⟨#[]⟩,.it .u64 0,.str ⟨#[]⟩,.bl false] (H24 lo up hl hu st v1 v2) (by kernel_rfl) (by kernel_rfl) (by kernel_rfl) (by kernel_rfl) rfl (by omega) (by omega) hW (by kernel_rfl) (by kernel_rfl) (by kernel_rfl) (fun rb w1 hrb hE1 hV1=>?_)
 have hE':=hE.kept hit (hE1.mono (by simp))
 have hs1:=hV1.sq (H24 lo up hl hu st v1 v2++k44_0)
 have hown:=hE'.2.1
 refine go_append 37 50 4 48 (.agg #[.string ⟨#[]⟩,.int .u64 0,.string ⟨#[]⟩,.bool false]) (.tmp 151) (.tmp 153) ov.1 j ((walkP G none (steps.take j)).flatMap cells50) ⟨rb,0,none⟩ 1 1 (cells50 z50) (H24 lo up hl hu st v1 v2++k44_0) (by kernel_rfl) (by kernel_rfl) (by kernel_rfl) (by kernel_rfl) (by kernel_rfl) rfl (by omega) hV1 (by kernel_rfl) hown rfl ?_ ?_ ?_ ?_ ?_ ?_
 ·intro i u hu
  match i,hu with
  |0,hu=>cases hu;exact hs1.cell 3 50 [.str ⟨#[]⟩,.it .u64 0,.str ⟨#[]⟩,.bl false] rfl 0 _ rfl
  |1,hu=>cases hu;exact hs1.cell 3 50 [.str ⟨#[]⟩,.it .u64 0,.str ⟨#[]⟩,.bl false] rfl 1 _ rfl
  |2,hu=>cases hu;exact hs1.cell 3 50 [.str ⟨#[]⟩,.it .u64 0,.str ⟨#[]⟩,.bl false] rfl 2 _ rfl
  |3,hu=>cases hu;exact hs1.cell 3 50 [.str ⟨#[]⟩,.it .u64 0,.str ⟨#[]⟩,.bl false] rfl 3 _ rfl
 ·intro u hu
  simp only [cells50,List.mem_cons,List.not_mem_nil,or_false] at hu
  rcases hu with rfl|rfl|rfl|rfl<;>rfl
 ·simp only [maxLen];omega
 ·omega
 ·intro x hx he
  have hx3:x∈[bb,sb,vb,rb]:=hx
  simp only [List.mem_cons,List.not_mem_nil,or_false] at hx3
  rcases hx3 with rfl|rfl|rfl|rfl
  ·exact own_ne_ty hown he.symm (hs1.mem 0 _ rfl) (by simp)
  ·exact own_ne_ty hown he.symm (hs1.mem 1 _ rfl) (by simp)
  ·exact own_ne_ty hown he.symm (hs1.mem 2 _ rfl) (by simp)
  ·have hlt':=own_lt' hE.2.1 _ he.symm
   omega
 ·intro v' w2 ho' hown2 hK2 _ _ hV2
  refine gr0 (bs:=[bb,sb,vb,rb]) 200 ⟨[],4,[],[],0⟩ hV2 fun w3 hK3 hV3=>?_
  have hs3:=hV3.sq (H24 lo up hl hu st v1 v2++k44_0)
  have hB:Kept [224,50] w1 w3:=hK2.tr hK3 (ts:=[224,50])
  obtain ⟨q1,_,q3,q4,q5,q6⟩:=hE'
  refine go_fin (Hand (J24 lb lo up hl hu A n c steps G R lv uv bb w0) m) (by kernel_rfl) (fun xs=>T24 lb A n c (o1 lv) (o1 uv) ⟨v',ho'⟩ b (IntKind.i64.wrap ((j:Int)+1)) xs) (by kernel_rfl) (fun xs=>?_)
  rw [wrap_succ j (by omega), ←hb]
  refine ⟨m - 1,by omega,[bb],T24 lb A n c (o1 lv) (o1 uv) ⟨v',ho'⟩ (posP G steps (j+1)).isSome ((j+1:Nat):Int) xs,[⟨45,B45 lo up hl hu⟩],?_,?_,?_⟩
  ·exact actS_cut [bb] [sb,vb,rb] _ (by kernel_rfl)
  ·exact hs3.sub [0] (by decide) (by simp) rfl ⟨hs3.memC 0 rfl (by kernel_rfl),trivial⟩
  ·refine ⟨j+1,xs,⟨v',ho'⟩,by omega,by omega,rfl,rfl,rfl,hit.kept _ _ _ q1 hB,?_,q3.kept hB (by simp),q4.kept hB (by simp),q5.kept hB (by decide),q6.trans (hB.mono (by simp))⟩
   rw [walkP_succ G steps j (by omega),ho]
   exact own_kept hown2 hK3 (by simp)
theorem mwX [Bd] (lb:Nat) (lo up:ByteArray) (hl hu:Bool) (A:Addr) (n c:Nat) (steps:List S47) (G:List S36) (R:Option Nat→World→Prop) (hit:ItOK lb G (opt hl lo) (opt hu up) R) (lv uv:V1) (bb:Nat) (w0:World) (hn:n < 2^30) (hln:steps.length=n) {Q:Exit→Act→World→Prop} (m j:Nat) (hj:j < n) (hm:m+j=n) (xs:Nat→Value) (ov:V1) (b:Bool) (st:S47) (v1 v2:V1) (sb vb:Nat) (w:World) (hE:E24 lo up hl hu A n c steps G R lv uv ov w0 j w) (ho:outP G (posP G steps j) (steps[j]'(by omega))=z50) (hb:(posP G steps (j+1)).isSome=b)
  (hW:Wk [bb,sb,vb] ⟨KX (K24 lb lo up hl hu A n c lv uv (Hand (J24 lb lo up hl hu A n c steps G R lv uv bb w0) m)),mkT 172 ((113,o1 ov)::(114,ze36)::keep24 lb A n c (o1 lv) (o1 uv) ov b j) xs,H24 lo up hl hu st v1 v2,[]⟩ w):
  kx Tryz.prog Q (KX (K24 lb lo up hl hu A n c lv uv (Hand (J24 lb lo up hl hu A n c steps G R lv uv bb w0) m))) .normal (actS [bb,sb,vb] (mkT 172 ((113,o1 ov)::(114,ze36)::keep24 lb A n c (o1 lv) (o1 uv) ov b j) xs)) w:=by
 refine go_bslice (s:=⟨KX (K24 lb lo up hl hu A n c lv uv (Hand (J24 lb lo up hl hu A n c steps G R lv uv bb w0) m)),mkT 172 ((113,o1 ov)::(114,ze36)::keep24 lb A n c (o1 lv) (o1 uv) ov b j) xs,H24 lo up hl hu st v1 v2,[]⟩) 37 50 4 (.tmp 114) [.str ⟨#[]⟩,.it .u64 0,.str ⟨#[]⟩,.bl false] (H24 lo up hl hu st v1 v2) (by kernel_rfl) (by kernel_rfl) (by kernel_rfl) (by kernel_rfl) rfl (by omega) (by omega) hW (by kernel_rfl) (by kernel_rfl) (by kernel_rfl) (fun rb w1 hrb hE1 hV1=>?_)
 have hE':=hE.kept hit (hE1.mono (by simp))
 have hs1:=hV1.sq (H24 lo up hl hu st v1 v2++k44_0)
 have hown:=hE'.2.1
 refine go_append 37 50 4 48 (.agg #[.string ⟨#[]⟩,.int .u64 0,.string ⟨#[]⟩,.bool false]) (.tmp 113) (.tmp 115) ov.1 j ((walkP G none (steps.take j)).flatMap cells50) ⟨rb,0,none⟩ 1 1 (cells50 z50) (H24 lo up hl hu st v1 v2++k44_0) (by kernel_rfl) (by kernel_rfl) (by kernel_rfl) (by kernel_rfl) (by kernel_rfl) rfl (by omega) hV1 (by kernel_rfl) hown rfl ?_ ?_ ?_ ?_ ?_ ?_
 ·intro i u hu
  match i,hu with
  |0,hu=>cases hu;exact hs1.cell 3 50 [.str ⟨#[]⟩,.it .u64 0,.str ⟨#[]⟩,.bl false] rfl 0 _ rfl
  |1,hu=>cases hu;exact hs1.cell 3 50 [.str ⟨#[]⟩,.it .u64 0,.str ⟨#[]⟩,.bl false] rfl 1 _ rfl
  |2,hu=>cases hu;exact hs1.cell 3 50 [.str ⟨#[]⟩,.it .u64 0,.str ⟨#[]⟩,.bl false] rfl 2 _ rfl
  |3,hu=>cases hu;exact hs1.cell 3 50 [.str ⟨#[]⟩,.it .u64 0,.str ⟨#[]⟩,.bl false] rfl 3 _ rfl
 ·intro u hu
  simp only [cells50,List.mem_cons,List.not_mem_nil,or_false] at hu
  rcases hu with rfl|rfl|rfl|rfl<;>rfl
 ·simp only [maxLen];omega
 ·omega
 ·intro x hx he
  have hx3:x∈[bb,sb,vb,rb]:=hx
  simp only [List.mem_cons,List.not_mem_nil,or_false] at hx3
  rcases hx3 with rfl|rfl|rfl|rfl
  ·exact own_ne_ty hown he.symm (hs1.mem 0 _ rfl) (by simp)
  ·exact own_ne_ty hown he.symm (hs1.mem 1 _ rfl) (by simp)
  ·exact own_ne_ty hown he.symm (hs1.mem 2 _ rfl) (by simp)
  ·have hlt':=own_lt' hE.2.1 _ he.symm
   omega
 ·intro v' w2 ho' hown2 hK2 _ _ hV2
  refine gr0 (bs:=[bb,sb,vb,rb]) 200 ⟨[],4,[],[],0⟩ hV2 fun w3 hK3 hV3=>?_
  have hs3:=hV3.sq (H24 lo up hl hu st v1 v2++k44_0)
  have hB:Kept [224,50] w1 w3:=hK2.tr hK3 (ts:=[224,50])
  obtain ⟨q1,_,q3,q4,q5,q6⟩:=hE'
  refine go_fin (Hand (J24 lb lo up hl hu A n c steps G R lv uv bb w0) m) (by kernel_rfl) (fun xs=>T24 lb A n c (o1 lv) (o1 uv) ⟨v',ho'⟩ b (IntKind.i64.wrap ((j:Int)+1)) xs) (by kernel_rfl) (fun xs=>?_)
  rw [wrap_succ j (by omega), ←hb]
  refine ⟨m - 1,by omega,[bb],T24 lb A n c (o1 lv) (o1 uv) ⟨v',ho'⟩ (posP G steps (j+1)).isSome ((j+1:Nat):Int) xs,[⟨45,B45 lo up hl hu⟩],?_,?_,?_⟩
  ·exact actS_cut [bb] [sb,vb,rb] _ (by kernel_rfl)
  ·exact hs3.sub [0] (by decide) (by simp) rfl ⟨hs3.memC 0 rfl (by kernel_rfl),trivial⟩
  ·refine ⟨j+1,xs,⟨v',ho'⟩,by omega,by omega,rfl,rfl,rfl,hit.kept _ _ _ q1 hB,?_,q3.kept hB (by simp),q4.kept hB (by simp),q5.kept hB (by decide),q6.trans (hB.mono (by simp))⟩
   rw [walkP_succ G steps j (by omega),ho]
   exact own_kept hown2 hK3 (by simp)
theorem mwS [Bd] (lb:Nat) (lo up:ByteArray) (hl hu:Bool) (A:Addr) (n c:Nat) (steps:List S47) (G:List S36) (R:Option Nat→World→Prop) (hit:ItOK lb G (opt hl lo) (opt hu up) R) (lv uv:V1) (bb:Nat) (w0:World) (hn:n < 2^30) (hln:steps.length=n) {Q:Exit→Act→World→Prop} (m j:Nat) (hj:j < n) (hm:m+j=n) (xs:Nat→Value) (ov:V1) (st:S47) (x:S36) (g off:Nat) (ku vu:V1) (cs:Array Value) (fz:Nat×Nat) (sb vb:Nat) (w:World) (hE:E24 lo up hl hu A n c steps G R lv uv ov w0 j w) (ho:outP G (posP G steps j) (steps[j]'(by omega))=⟨x,true⟩) (hb:(posP G steps (j+1)).isSome=true)
  (hg:w.heap[g]? =some (.cells cs 182 fz)) (h1:w.cell? ⟨g,off,none⟩=some ku.1) (h2:w.cell? ⟨g,off+1,none⟩=some (.int .u64 x.f1)) (hku:RdS w ku.1 (TL.bs x.f0)) (hvu:RdS w vu.1 (TL.bs x.f2))
  (hW:Wk [bb,sb,vb] ⟨(KS (K24 lb lo up hl hu A n c lv uv (Hand (J24 lb lo up hl hu A n c steps G R lv uv bb w0) m))),(mkT 172 ((155,.ptr ⟨g,off,none⟩)::(156,.ptr ⟨g,off,none⟩)::(18,.p 2 0)::keep24 lb A n c (o1 lv) (o1 uv) ov true j) xs),H24 lo up hl hu st vu npV,[]⟩ w):
  kx Tryz.prog Q (KS (K24 lb lo up hl hu A n c lv uv (Hand (J24 lb lo up hl hu A n c steps G R lv uv bb w0) m))) .normal (actS [bb,sb,vb] (mkT 172 ((155,.ptr ⟨g,off,none⟩)::(156,.ptr ⟨g,off,none⟩)::(18,.p 2 0)::keep24 lb A n c (o1 lv) (o1 uv) ov true j) xs)) w:=by
 refine go_loadA (s:=⟨(KS (K24 lb lo up hl hu A n c lv uv (Hand (J24 lb lo up hl hu A n c steps G R lv uv bb w0) m))),(mkT 172 ((155,.ptr ⟨g,off,none⟩)::(156,.ptr ⟨g,off,none⟩)::(18,.p 2 0)::keep24 lb A n c (o1 lv) (o1 uv) ov true j) xs),H24 lo up hl hu st vu npV,[]⟩) 182 (.tmp 156) ⟨g,off,none⟩ [o1 ku,.si .u64 x.f1] (H24 lo up hl hu st vu npV) (by kernel_rfl) (by kernel_rfl) (by kernel_rfl) (by kernel_rfl) hW (by kernel_rfl) ?_ (fun hV1=>?_)
 ·intro i y hy
  match i,hy with
  |0,hy=>cases hy;rw [show (⟨g,off,none⟩:Addr).add 0=⟨g,off,none⟩ by simp [Addr.add]];exact h1
  |1,hy=>cases hy;exact h2
 refine gr0 (bs:=[bb,sb,vb]) 200 ⟨[],3,[],[],0⟩ hV1 fun w2 hG2 hV2=>?_
 have hs2:=hV2.sq (H24 lo up hl hu st vu npV)
 refine gc 74 [.agg [o1 ku,.si .u64 x.f1]] hV2 ?_
 refine (c74 ku.1 (TL.bs x.f0) x.f1 w2 (hku.kept hG2 (by simp))).mono ?_
 rintro e w3 ⟨rfl,hG3⟩
 refine ⟨.agg [o1 (sV x.f0),.si .u64 x.f1,.str ⟨#[]⟩],[],H24 lo up hl hu st vu npV,by simp [SV.den,SV.denL,bs_back],hs2.kq hG3,fun hV3=>?_⟩
 refine gr1 (bs:=[bb,sb,vb]) 200 ⟨[],3,[],[],0⟩ hV3 fun eb w4 hfr4 hG4 hV4=>?_
 have hs4:=hV4.sq (H24 lo up hl hu st vu npV++[⟨36,[o1 (sV x.f0),.si .u64 x.f1,.str ⟨#[]⟩]⟩])
 have hA4:Ext w w4:=hG2.trans (hG3.trans hG4)
 have heb:w.heap.size≤eb:=by
  have:=hfr4 eb (by simp)
  have:=(hG2.trans hG3).size
  omega
 refine gc 75 [.p 2 0] hV4 ?_
 have hvu4:=hvu.kept hA4 (by simp)
 obtain ⟨vb',vo',vc',_,_,hvf,_⟩:=hvu4
 obtain ⟨vu,hvu1⟩:=vu
 have hvf:vu=_:=hvf
 subst hvf
 refine (c75 _ _ _ ⟨vb,0,none⟩ w4 (hs4.cell 2 224 _ rfl 0 _ rfl) (hs4.cell 2 224 _ rfl 1 _ rfl)).mono ?_
 rintro e w5 ⟨rfl,hG5⟩
 refine ⟨.sl ⟨vb',vo',none⟩ (TL.bs x.f2).length vc',[],_,rfl,hs4.kq hG5,fun hV5=>?_⟩
 refine gr0 (bs:=[bb,sb,vb,eb]) 200 ⟨[],4,[],[],0⟩ hV5 fun w6 hG6 hV6=>?_
 refine go_back (.tmp 159) (.slice (some ⟨vb',vo',none⟩) (TL.bs x.f2).length vc') x.f2 (H24 lo up hl hu st ⟨_,hvu1⟩ npV++[⟨36,[o1 (sV x.f0),.si .u64 x.f1,.str ⟨#[]⟩]⟩]) (by kernel_rfl) (by kernel_rfl) hV6 (by kernel_rfl) (hvu.kept (hA4.trans (hG5.trans hG6)) (by simp)) (fun hV7=>?_)
 refine gg0 (bs:=[bb,sb,vb,eb]) 200 ⟨[36,4000000],4,[],[],0⟩ hV7 fun w8 hK8 hN8 hV8=>?_
 have hs8:=hV8.sq (H24 lo up hl hu st ⟨_,hvu1⟩ npV++[⟨36,[o1 (sV x.f0),.si .u64 x.f1,o1 (sV x.f2)]⟩])
 have hs6:=(hs4.kq (hG5.trans hG6))
 have hA8:Ext w w8:=(hA4.trans (hG5.trans hG6)).finT hK8 hN8 (fun y hy=>by
  simp only [List.mem_cons,List.not_mem_nil,or_false] at hy
  rcases hy with rfl|rfl|rfl|rfl
  ·exact .inr ⟨_,_,_,hs6.mem 0 _ rfl,by simp⟩
  ·exact .inr ⟨_,_,_,hs6.mem 1 _ rfl,by simp⟩
  ·exact .inr ⟨_,_,_,hs6.mem 2 _ rfl,by simp⟩
  ·exact .inl heb)
 refine go_bslice 37 50 4 (.tmp 164) [o1 (sV x.f0),.si .u64 x.f1,o1 (sV x.f2),.bl true] (H24 lo up hl hu st ⟨_,hvu1⟩ npV++[⟨36,[o1 (sV x.f0),.si .u64 x.f1,o1 (sV x.f2)]⟩]) (by kernel_rfl) (by kernel_rfl) (by kernel_rfl) (by kernel_rfl) rfl (by omega) (by omega) hV8 (by kernel_rfl) (by kernel_rfl) (by kernel_rfl) (fun rb w9 hrb hG9 hV9=>?_)
 have hE':=hE.kept hit ((hA8.trans hG9).mono (by simp))
 have hs9:=hV9.sq (H24 lo up hl hu st ⟨_,hvu1⟩ npV++[⟨36,[o1 (sV x.f0),.si .u64 x.f1,o1 (sV x.f2)]⟩]++[⟨50,[o1 (sV x.f0),.si .u64 x.f1,o1 (sV x.f2),.bl true]⟩])
 have hown:=hE'.2.1
 refine go_append 37 50 4 48 (.agg #[.string ⟨#[]⟩,.int .u64 0,.string ⟨#[]⟩,.bool false]) (.tmp 162) (.tmp 165) ov.1 j ((walkP G none (steps.take j)).flatMap cells50) ⟨rb,0,none⟩ 1 1 (cells50 ⟨x,true⟩) (H24 lo up hl hu st ⟨_,hvu1⟩ npV++[⟨36,[o1 (sV x.f0),.si .u64 x.f1,o1 (sV x.f2)]⟩]++[⟨50,[o1 (sV x.f0),.si .u64 x.f1,o1 (sV x.f2),.bl true]⟩]) (by kernel_rfl) (by kernel_rfl) (by kernel_rfl) (by kernel_rfl) (by kernel_rfl) rfl (by omega) hV9 (by kernel_rfl) hown rfl ?_ ?_ ?_ ?_ ?_ ?_
 ·intro i u hu
  match i,hu with
  |0,hu=>cases hu;exact hs9.cell 4 50 [o1 (sV x.f0),.si .u64 x.f1,o1 (sV x.f2),.bl true] rfl 0 _ rfl
  |1,hu=>cases hu;exact hs9.cell 4 50 [o1 (sV x.f0),.si .u64 x.f1,o1 (sV x.f2),.bl true] rfl 1 _ rfl
  |2,hu=>cases hu;exact hs9.cell 4 50 [o1 (sV x.f0),.si .u64 x.f1,o1 (sV x.f2),.bl true] rfl 2 _ rfl
  |3,hu=>cases hu;exact hs9.cell 4 50 [o1 (sV x.f0),.si .u64 x.f1,o1 (sV x.f2),.bl true] rfl 3 _ rfl
 ·intro u hu
  simp only [cells50,List.mem_cons,List.not_mem_nil,or_false] at hu
  rcases hu with rfl|rfl|rfl|rfl<;>rfl
 ·simp only [maxLen];omega
 ·omega
 ·intro y hy he
  have hx3:y∈[bb,sb,vb,eb,rb]:=hy
  simp only [List.mem_cons,List.not_mem_nil,or_false] at hx3
  rcases hx3 with rfl|rfl|rfl|rfl|rfl
  ·exact own_ne_ty hown he.symm (hs9.mem 0 _ rfl) (by simp)
  ·exact own_ne_ty hown he.symm (hs9.mem 1 _ rfl) (by simp)
  ·exact own_ne_ty hown he.symm (hs9.mem 2 _ rfl) (by simp)
  ·exact own_ne_ty hown he.symm (hs9.mem 3 _ rfl) (by simp)
  ·have hlt':=own_lt' hE.2.1 _ he.symm
   have:=hA8.size
   omega
 ·intro v' w10 ho' hown2 hK2 _ _ hV10
  refine gr0 (bs:=[bb,sb,vb,eb,rb]) 200 ⟨[],5,[],[],0⟩ hV10 fun w11 hK3 hV11=>?_
  have hs11:=hV11.sq (H24 lo up hl hu st ⟨_,hvu1⟩ npV++[⟨36,[o1 (sV x.f0),.si .u64 x.f1,o1 (sV x.f2)]⟩]++[⟨50,[o1 (sV x.f0),.si .u64 x.f1,o1 (sV x.f2),.bl true]⟩])
  have hB:Kept [224,50] w9 w11:=hK2.tr hK3 (ts:=[224,50])
  obtain ⟨q1,_,q3,q4,q5,q6⟩:=hE'
  refine go_fin (Hand (J24 lb lo up hl hu A n c steps G R lv uv bb w0) m) (by kernel_rfl) (fun xs=>T24 lb A n c (o1 lv) (o1 uv) ⟨v',ho'⟩ true (IntKind.i64.wrap ((j:Int)+1)) xs) (by kernel_rfl) (fun xs=>?_)
  rw [wrap_succ j (by omega),show T24 lb A n c (o1 lv) (o1 uv) ⟨v',ho'⟩ true ((j+1:Nat):Int) xs=T24 lb A n c (o1 lv) (o1 uv) ⟨v',ho'⟩ (posP G steps (j+1)).isSome ((j+1:Nat):Int) xs by rw [hb]]
  refine ⟨m - 1,by omega,[bb],T24 lb A n c (o1 lv) (o1 uv) ⟨v',ho'⟩ (posP G steps (j+1)).isSome ((j+1:Nat):Int) xs,[⟨45,B45 lo up hl hu⟩],?_,?_,?_⟩
  ·exact actS_cut [bb] [sb,vb,eb,rb] _ (by kernel_rfl)
  ·exact hs11.sub [0] (by decide) (by simp) rfl ⟨hs11.memC 0 rfl (by kernel_rfl),trivial⟩
  ·refine ⟨j+1,xs,⟨v',ho'⟩,by omega,by omega,rfl,rfl,rfl,hit.kept _ _ _ q1 hB,?_,q3.kept hB (by simp),q4.kept hB (by simp),q5.kept hB (by decide),q6.trans (hB.mono (by simp))⟩
   rw [walkP_succ G steps j (by omega),ho]
   exact own_kept hown2 hK3 (by simp)
end Go.Proofs.YtghppnklhbbffaaGreatDoor.X
namespace Go.Proofs.YtghppnklhbbffaaGreatDoor.X
open Go Go.RowKit Go.MapKept Go.Proofs.YtghppnklhbbffaaGreatDoor.TL
theorem Sat.ne_own [Bd] {bs:List Nat} {H:List SB} {w:World} {e size n:Nat} {v:Value} {xs:List Value} (h:Sat bs H w) (hown:w.ownsRow Bd.B e size v n xs) (hH:(H.all fun b=>b.ty !=e)=true): ∀ b∈bs,some b≠v.ownBlock:=by
 intro b hb he
 obtain ⟨i,hi,rfl⟩:=List.getElem_of_mem hb
 have hl:=h.len
 have hm:=h.mem i _ (List.getElem?_eq_getElem (by omega))
 have e1:nmB bs i=bs[i]:=by simp [nmB,List.getD_eq_getElem?_getD,hi]
 rw [e1] at hm
 refine own_ne_ty hown he.symm hm ?_
 have:=List.all_eq_true.1 hH _ (List.getElem_mem (by omega:i < H.length))
 simpa using this
theorem zapp [Bd] {P:Program} {Q:Exit→Act→World→Prop} {bs:List Nat} {w:World} {S:ST} (t e size bytes:Nat) (z:Value) (x x1 x2:Nat) (l:List SV) (v:V1) (n:Nat) (xs:List Value) (H:List SB) (hs:Wk bs S w) (hown:w.ownsRow Bd.B e size v.1 n xs) (hn:n < 2^30) (hne: ∀ b∈bs,some b≠v.1.ownBlock)
  (hk: ∀ nb (v':V1) w',w'.ownsRow Bd.B e size v'.1 (n+1) (xs++SV.denL bs l)→Kept [e] w w'→nb=w.heap.size→Wk (bs++[nb]) (afterC (afterC S (.sl ⟨nb,0,none⟩ 1 1) (H++[⟨e,l⟩])) (o1 v') (H++[⟨e,l⟩])) w'→kx P Q (afterC (afterC S (.sl ⟨nb,0,none⟩ 1 1) (H++[⟨e,l⟩])) (o1 v') (H++[⟨e,l⟩])).K .normal (actS (bs++[nb]) (afterC (afterC S (.sl ⟨nb,0,none⟩ 1 1) (H++[⟨e,l⟩])) (o1 v') (H++[⟨e,l⟩])).T) w')
  (h:curOp S=some (.buildSlice t 1 #[(0,.tmp x)]):=by kernel_rfl) (hx:cellsV (evS S.T (.tmp x))=some l:=by kernel_rfl) (hu:P.underlying t=some (.slice e):=by kernel_rfl) (hinfo:(P.info? e).map (fun i=>(i.zero,i.size,i.bytes))=some (some z,size,bytes):=by kernel_rfl) (hzs:z.cells.size=size:=by kernel_rfl) (hl:l.length=size:=by rfl) (h0:0 < size:=by decide) (h24:size≤2^24:=by decide) (hb:bytes≤1024:=by decide)
  (hH:S.H=H:=by kernel_rfl) (hw:wfH H.length H=true:=by kernel_rfl) (hlt:SV.ltL H.length l=true:=by kernel_rfl) (hone:(SV.denL bs l).all (·.oneCell')=true:=by kernel_rfl)
  (h2: ∀ nb,curOp (afterC S (.sl ⟨nb,0,none⟩ 1 1) (H++[⟨e,l⟩]))=some (.call (appC t (.tmp x1) (.tmp x2))):=by intro _;kernel_rfl) (h3: ∀ nb,(evS (afterC S (.sl ⟨nb,0,none⟩ 1 1) (H++[⟨e,l⟩])).T (.tmp x1)).den (bs++[nb])=v.1:=by intro _;kernel_rfl) (h4: ∀ nb,evS (afterC S (.sl ⟨nb,0,none⟩ 1 1) (H++[⟨e,l⟩])).T (.tmp x2)=.sl ⟨nb,0,none⟩ 1 1:=by intro _;kernel_rfl)
  (h5: ∀ nb,(afterC S (.sl ⟨nb,0,none⟩ 1 1) (H++[⟨e,l⟩])).H=H++[⟨e,l⟩]:=by intro _;kernel_rfl):
  kx P Q S.K .normal (actS bs S.T) w:=by
 have hi2:(P.info? e).map (fun i=>(i.zero.map (·.cells.size),i.size))=some (some size,size):=by
  cases hi:P.info? e with
  |none=>rw [hi] at hinfo;cases hinfo
  |some i=>
   rw [hi] at hinfo
   simp only [Option.map_some,Option.some.injEq,Prod.mk.injEq] at hinfo ⊢
   rw [hinfo.1]
   exact ⟨by simp [hzs],hinfo.2.1⟩
 refine go_bslice t e size (.tmp x) l H h hx hu hi2 hl h0 h24 hs hH hw hlt (fun nb w1 hnb hE1 hW1=>?_)
 have hsat:=hs.satE H hH
 have hown1:=own_kept hown hE1 (by simp)
 have hsat1:Sat (bs++[nb]) (H++[⟨e,l⟩]) w1:=hW1.satE _ (h5 nb)
 have hlen:H.length=bs.length:=hsat.len.symm
 have hcell:=hsat1.mem H.length ⟨e,l⟩ (by simp)
 have hnm:nmB (bs++[nb]) H.length=nb:=by simp [nmB,List.getD_eq_getElem?_getD,hlen]
 rw [hnm] at hcell
 have hdl:SV.denL (bs++[nb]) l=SV.denL bs l:=denL_app (xs:=[nb]) l (hlen ▸ hlt)
 refine go_append t e size bytes z (.tmp x1) (.tmp x2) v.1 n xs ⟨nb,0,none⟩ 1 1 (SV.denL bs l) (H++[⟨e,l⟩]) (h2 nb) (h3 nb) (h4 nb) hu hinfo hzs h0 hW1 (h5 nb) hown1 ?_ ?_ ?_ ?_ ?_ ?_ (fun v' w2 ho hown2 hK2 _ _ hW2=>?_)
 ·rw [denL_length,hl,Nat.one_mul]
 ·intro j u hu
  rw [hdl] at hcell
  show w1.cell? ((⟨nb,0,none⟩:Addr).add j)=some u
  have:(⟨nb,0,none⟩:Addr).add j=⟨nb,j,none⟩:=by unfold Addr.add;split<;>simp_all
  rw [this]
  exact cell_of_heap hcell (by simpa using hu)
 ·intro u hu
  exact List.all_eq_true.1 hone u hu
 ·simp only [maxLen];omega
 ·have:(n+1)*bytes≤(n+1)*1024:=Nat.mul_le_mul_left _ hb
  omega
 ·intro b hb he
  rcases List.mem_append.1 hb with hb|hb
  ·exact hne b hb he
  ·have hb:=List.mem_singleton.1 hb
   have:=own_lt' hown _ he.symm
   omega
 ·exact hk nb ⟨v',ho⟩ w2 hown2 (hE1.tr hK2 (ts:=[e]) (by simp) (by simp)) hnb hW2
theorem go_lenS [Bd] {P:Program} {Q:Exit→Act→World→Prop} {bs:List Nat} {w:World} {s:ST} (t e:TypeId) (x:Operand) (A:Option Addr) (n c:Nat) (H:List SB) (h:curOp s=some (.call (lenC t x))) (hx:(evS s.T x).den bs=.slice A n c) (hu:P.underlying t=some (.slice e)) (hs:Wk bs s w) (hH:s.H=H)
  (hk:Wk bs (afterC s (.si .i64 n) H) w→kx P Q (afterC s (.si .i64 n) H).K .normal (actS bs (afterC s (.si .i64 n) H).T) w):kx P Q s.K .normal (actS bs s.T) w:=by
 refine go_op (.call (lenC t x)) h hs w (.si .i64 n) [] H (.value (.int .i64 n)) (fun o ho=>?_) (.inl (by simp only [SV.den])) (by rw [List.append_nil];exact hs.satE H hH) (fun hW=>?_)
 ·simp only [execOp,ho,Sem.run_bind,resolve_builtin (show (lenC t x).callee=.builtin .len from rfl),Result.andThen,invoke,builtin]
  rw [show (lenC t x).args.map (actS bs s.T).eval= #[.slice A n c] by simp [lenC,ev_den,hx]]
  simp only [Builtin.len_,show (lenC t x).argTypes[0]? =some t from rfl,List.getElem?_toArray,List.getElem?_cons_zero,Sem.run_bind,run_underlying hu,Result.andThen,Sem.run_pure,goInt]
 ·rw [List.append_nil] at hW ⊢
  exact hk hW
theorem go_lenT [Bd] {P:Program} {Q:Exit→Act→World→Prop} {bs:List Nat} {w:World} {s:ST} (t:TypeId) (x:Operand) (b:ByteArray) (H:List SB) (hs:Wk bs s w)
  (hk:Wk bs (afterC s (.si .i64 b.size) H) w→kx P Q (afterC s (.si .i64 b.size) H).K .normal (actS bs (afterC s (.si .i64 b.size) H).T) w) (h:curOp s=some (.call (lenC t x)):=by kernel_rfl) (hx:(evS s.T x).den bs=.string b:=by kernel_rfl) (hu:P.underlying t=some .string:=by kernel_rfl) (hH:s.H=H:=by kernel_rfl):kx P Q s.K .normal (actS bs s.T) w:=by
 refine go_op (.call (lenC t x)) h hs w (.si .i64 b.size) [] H (.value (.int .i64 b.size)) (fun o ho=>?_) (.inl (by simp only [SV.den])) (by rw [List.append_nil];exact hs.satE H hH) (fun hW=>?_)
 ·simp only [execOp,ho,Sem.run_bind,resolve_builtin (show (lenC t x).callee=.builtin .len from rfl),Result.andThen,invoke,builtin]
  rw [show (lenC t x).args.map (actS bs s.T).eval= #[.string b] by simp [lenC,ev_den,hx]]
  simp only [Builtin.len_,show (lenC t x).argTypes[0]? =some t from rfl,List.getElem?_toArray,List.getElem?_cons_zero,Sem.run_bind,run_underlying hu,Result.andThen,Sem.run_pure,goInt]
 ·rw [List.append_nil] at hW ⊢
  exact hk hW
theorem denL_getS [Bd] {bs:List Nat} {l:List SV} {j:Nat} {y:SV} (h:l[j]? =some y):(SV.denL bs l)[j]? =some (y.den bs):=by rw [denL_get,h];rfl
abbrev sv (b:ByteArray):SV:=.oc (.string b) rfl
end Go.Proofs.YtghppnklhbbffaaGreatDoor.X
