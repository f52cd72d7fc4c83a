/- Part 36 of the proof that laws.FnTreeLevel answers true, for arguments of small bulk. -/
import Derived.Test.YtghppnklhbbffaaGreatDoorR05
import Derived.Test.YtghppnklhbbffaaGreatDoorR35
import Derived.Test.YtghppnklhbbffaaGreatDoorCards
import Derived.Test.YtghppnklhbbffaaGreatDoorTie
import Derived.WalkKit
import Derived.ProofKit
import Derived.OpenShut
import Derived.Deep.DeepHandedRow
import Derived.Deep.DeepWitnessRowRef
import Derived.Carry
set_option linter.all false
set_option maxHeartbeats 4000000
set_option maxRecDepth 100000
namespace Go.Proofs.YtghppnklhbbffaaGreatDoor.X
open Go Go.RowKit Go.MapKept Go.Proofs.YtghppnklhbbffaaGreatDoor.TL Go.Proofs.YtghppnklhbbffaaGreatDoor.PFnTreeLevel Go.Proofs.YtghppnklhbbffaaGreatDoorW.PrintWords Go.Proofs.YtghppnklhbbffaaGreatDoorW.PrintMore
def T3L (a:Addr) (n c:Nat) (A2:Option Addr) (mm c2:Nat) (fv:V1) (j:Int) (ys:Nat→Value):List SV:=mkT 119 (keep3 (some a) n c A2 mm c2 fv [(53,.sl a n c),(54,.si .i64 n),(55,.si .i64 j)]) ys
abbrev HB3 (a:Addr) (n c:Nat) (lo up:ByteArray) (hl hu:Bool) (A1 A3:Option Addr) (c1 c3:Nat) (x:S56):List SB:=HT3 (some a) n c lo up hl hu++[⟨56,[.si .u64 x.f0,.oc (.slice A1 x.f1.length c1) rfl,.oc (.slice A3 x.f2.length c3) rfl]⟩]
def accT (xs:List S56) (lo up:ByteArray) (hl hu:Bool) (j:Nat):List S57:=((xs.take j).flatMap (·.f1)).filter (fun e=>insB lo up hl hu e.f0)
def I3 [Bd] (xs:List S56) (lo up:ByteArray) (hl hu:Bool) (fv:V1) (j:Nat) (w:World):Prop:=
 w.ownsRow Bd.B 57 3 fv.1 (accT xs lo up hl hu j).length ((accT xs lo up hl hu j).flatMap cells57)∧ ∀ x∈xs.take j,x.f1.length≤30∧x.f2=[]
def J3 [Bd] (a:Addr) (n c:Nat) (A2:Option Addr) (mm c2:Nat) (xs:List S56) (lo up:ByteArray) (hl hu:Bool) (bb tb:Nat) (W:World) (m:Nat) (bs:List Nat) (T:List SV) (H:List SB) (w:World):Prop:=
 ∃ (j:Nat) (ys:Nat→Value) (fv:V1),j≤n∧m+j=n∧bs=[bb,tb]∧T=T3L a n c A2 mm c2 fv j ys∧H=HT3 (some a) n c lo up hl hu∧I3 xs lo up hl hu fv j w∧Kept [57] W w
noncomputable abbrev SB3 (a:Addr) (n c:Nat) (A2:Option Addr) (mm c2:Nat) (lo up:ByteArray) (hl hu:Bool) (ys:Nat→Value):ST:=⟨KL3,T3L a n c A2 mm c2 nilV 0 ys,HT3 (some a) n c lo up hl hu,[]⟩
theorem take_len [Bd] {xs:List S56} {lo up:ByteArray} {hl hu:Bool} {j:Nat} (h: ∀ x∈xs.take j,x.f1.length≤30∧x.f2=[]):(accT xs lo up hl hu j).length≤30*j:=by
 have h1:(accT xs lo up hl hu j).length≤((xs.take j).flatMap (·.f1)).length:=List.length_filter_le _ _
 have h2: ∀ l:List S56,(∀ x∈l,x.f1.length≤30∧x.f2=[])→(l.flatMap (·.f1)).length≤30*l.length:=by
  intro l
  induction l with
  |nil=>intro _;simp
  |cons x r ih=>
   intro h
   have:=(h x (by simp)).1
   have:=ih (fun y hy=>h y (by simp [hy]))
   rw [List.flatMap_cons,List.length_append,List.length_cons]
   omega
 have h3:=h2 _ h
 have h4:(xs.take j).length≤j:=by rw [List.length_take];omega
 omega
theorem old_cell [Bd] {ts:List TypeId} {W w:World} (hk:Kept ts W w) (hw:W.heap.size=Bd.B) {p:Addr} {v:Value} (h:W.cell? p=some v):w.cell? p=some v:=
 ((Kept.toBelow hk hw).cell (World.block_lt_of_cell? W _ h)).trans h
noncomputable def KB3 (q:Act→World→Prop):List KI:=skK 8 17 [true,false] (bodyS ⟨KL3,[],[],[]⟩ q [] []).K
def TI3 (a:Addr) (n c:Nat) (A2:Option Addr) (mm c2:Nat) (j:Nat) (a1:Addr) (n1 c1:Nat) (fv:V1) (i:Int) (ys:Nat→Value):List SV:=mkT 119 (keep3 (some a) n c A2 mm c2 fv [(53,.sl a n c),(54,.si .i64 n),(55,.si .i64 j),(11,.p 2 0),(82,.sl a1 n1 c1),(83,.si .i64 n1),(84,.si .i64 i)]) ys
def accI (xs:List S56) (lo up:ByteArray) (hl hu:Bool) (j:Nat) (ps:List S57) (i:Nat):List S57:=accT xs lo up hl hu j++(ps.take i).filter (fun e=>insB lo up hl hu e.f0)
def JI3 [Bd] (a:Addr) (n c:Nat) (A2:Option Addr) (mm c2:Nat) (xs:List S56) (lo up:ByteArray) (hl hu:Bool) (j:Nat) (a1:Addr) (c1:Nat) (A3:Option Addr) (c3:Nat) (x:S56) (bb tb xb:Nat) (W:World) (m:Nat) (bs:List Nat) (T:List SV) (H:List SB) (w:World):Prop:=
 ∃ (i:Nat) (ys:Nat→Value) (fv:V1),i≤x.f1.length∧m+i=x.f1.length∧bs=[bb,tb,xb]∧T=TI3 a n c A2 mm c2 j a1 x.f1.length c1 fv i ys∧H=HB3 a n c lo up hl hu (some a1) A3 c1 c3 x∧w.ownsRow Bd.B 57 3 fv.1 (accI xs lo up hl hu j x.f1 i).length ((accI xs lo up hl hu j x.f1 i).flatMap cells57)∧Kept [57] W w
noncomputable abbrev SI3 (a:Addr) (n c:Nat) (A2:Option Addr) (mm c2:Nat) (lo up:ByteArray) (hl hu:Bool) (j:Nat) (a1:Addr) (c1:Nat) (A3:Option Addr) (c3:Nat) (x:S56) (fv:V1) (ys:Nat→Value) (q:Act→World→Prop):ST:=⟨KB3 q,TI3 a n c A2 mm c2 j a1 x.f1.length c1 fv 0 ys,HB3 a n c lo up hl hu (some a1) A3 c1 c3 x,[]⟩
theorem lpI [Bd] (a:Addr) (c:Nat) (xs:List S56) (lo up:ByteArray) (hl hu:Bool) (A2:Option Addr) (mm c2:Nat) (W:World) (hw:W.heap.size=Bd.B) (j:Nat) (hj:j < xs.length) (hn:xs.length≤10) (a1:Addr) (c1:Nat) (A3:Option Addr) (c3:Nat) (x:S56) (hx:xs[j]=x) (hC:Kd.C k57 W (some a1) x.f1.length x.f1) (h30:x.f1.length≤30) (ht0:x.f2=[])
  (hlo:lo.size≤140737488351232) (hsz: ∀ p∈x.f1,p.f0.size≤140737488351232) (htk: ∀ x∈xs.take j,x.f1.length≤30∧x.f2=[]) (bb tb xb:Nat) (m:Nat) (hm:m+j=xs.length) (fv0:V1) (ys0:Nat→Value) (w:World) {Q:Exit→Act→World→Prop} (hK:Kept [57] W w)
  (hown:w.ownsRow Bd.B 57 3 fv0.1 (accT xs lo up hl hu j).length ((accT xs lo up hl hu j).flatMap cells57))
  (hW:Wk [bb,tb,xb] (SI3 a xs.length c A2 mm c2 lo up hl hu j a1 c1 A3 c3 x fv0 ys0 (Hand (J3 a xs.length c A2 mm c2 xs lo up hl hu bb tb W) m)) w):
  kx Tryz.prog Q (SI3 a xs.length c A2 mm c2 lo up hl hu j a1 c1 A3 c3 x fv0 ys0 (Hand (J3 a xs.length c A2 mm c2 xs lo up hl hu bb tb W) m)).K .normal (actS [bb,tb,xb] (TI3 a xs.length c A2 mm c2 j a1 x.f1.length c1 fv0 0 ys0)) w:=by
 generalize hq:Hand (J3 a xs.length c A2 mm c2 xs lo up hl hu bb tb W) m=q at *
 refine go_loop (s:=SI3 a xs.length c A2 mm c2 lo up hl hu j a1 c1 A3 c3 x fv0 ys0 q) (bs:=[bb,tb,xb]) (JI3 a xs.length c A2 mm c2 xs lo up hl hu j a1 c1 A3 c3 x bb tb xb W) x.f1.length (by kernel_rfl) hW (fun ys=>TI3 a xs.length c A2 mm c2 j a1 x.f1.length c1 fv0 0 ys) (HB3 a xs.length c lo up hl hu (some a1) A3 c1 c3 x) (by kernel_rfl) (by kernel_rfl)
  (fun ys=>⟨0,ys,fv0,by omega,by omega,rfl,rfl,rfl,by simpa [accI] using hown,hK⟩) ?_ ?_
 ·rintro m bs' T H w' ⟨i,ys,fv,_,_,rfl,_⟩
  exact ⟨[],rfl⟩
 clear hW hK hown
 rintro mi bs' T H w' ⟨i,ys,fv,hi,hmi,rfl,rfl,rfl,hown,hK⟩ hW'
 by_cases hlt:i < x.f1.length
 ·refine go_run (s:=bodyS (SI3 a xs.length c A2 mm c2 lo up hl hu j a1 c1 A3 c3 x fv0 ys0 q) (Hand (JI3 a xs.length c A2 mm c2 xs lo up hl hu j a1 c1 A3 c3 x bb tb xb W) mi) (TI3 a xs.length c A2 mm c2 j a1 x.f1.length c1 fv i ys) (HB3 a xs.length c lo up hl hu (some a1) A3 c1 c3 x)) (bs:=[bb,tb,xb]) 200 ⟨[],3,[],[(85,true)],0⟩ (by kernel_rfl) hW' rfl [(decide ((i:Int) < x.f1.length),true),(decide ((0:Int)≤i),true),(decide ((i:Int) < x.f1.length),true)] (by kernel_rfl) ⟨by simpa using hlt,by simp,by simpa using hlt,trivial⟩ ?_
  intro nw v1 _ hG1 hV1
  obtain rfl:=nw0 (hV1.num 3 (by kernel_rfl)) rfl
  have hK1:Kept [57] W v1:=hK.tr hG1 (ts:=[57])
  obtain ⟨ad,e1,g1,g2,g3,_⟩:=at57 hC i hlt
  cases e1
  have g1:=old_cell hK1 hw g1
  have g2:=old_cell hK1 hw g2
  have g3:=old_cell hK1 hw g3
  have hpm:x.f1[i]∈x.f1:=List.getElem_mem hlt
  generalize hp:x.f1[i]=p at *
  refine go_loadA 57 (.tmp 86) (a1.add ((i:Int).toNat*3)) [.oc (.string p.f0) rfl,.si .u64 p.f1,.oc (.string p.f2) rfl] (HB3 a xs.length c lo up hl hu (some a1) A3 c1 c3 x) (by kernel_rfl) (by kernel_rfl) (by kernel_rfl) (by kernel_rfl) hV1 (by kernel_rfl) ?_ (fun hV2=>?_)
  ·intro k y hy
   rw [Int.toNat_natCast]
   match k,hy with
   |0,hy=>cases hy;rw [show (a1.add (i*3)).add 0=a1.add (i*3) by simp [Addr.add]];exact g1
   |1,hy=>cases hy;exact g2
   |2,hy=>cases hy;exact g3
  refine gr1 (bs:=[bb,tb,xb]) 200 ⟨[],3,[],[],0⟩ hV2 fun pb v3 hnb3 hG3 hV3=>?_
  have hK3:Kept [57] W v3:=hK1.tr hG3 (ts:=[57])
  have hs3:=hV3.sq (HB3 a xs.length c lo up hl hu (some a1) A3 c1 c3 x++[⟨57,[.oc (.string p.f0) rfl,.si .u64 p.f1,.oc (.string p.f2) rfl]⟩])
  have hacc:accI xs lo up hl hu j x.f1 (i+1)=accI xs lo up hl hu j x.f1 i++[p].filter (fun e=>insB lo up hl hu e.f0):=by
   unfold accI
   rw [List.take_succ_eq_append_getElem hlt,List.filter_append,List.append_assoc,hp]
  have hal:(accI xs lo up hl hu j x.f1 i).length≤400:=by
   have h1:=take_len htk (lo:=lo) (up:=up) (hl:=hl) (hu:=hu)
   unfold accI
   rw [List.length_append]
   have h2:((x.f1.take i).filter (fun e=>insB lo up hl hu e.f0)).length≤(x.f1.take i).length:=List.length_filter_le _ _
   have h3:(x.f1.take i).length≤i:=by rw [List.length_take];omega
   omega
  refine gc 12 [.oc (.string p.f0) rfl,.agg (B45 lo up hl hu)] hV3 ?_
  refine (c12 lo up hl hu p.f0 hlo (hsz _ hpm) v3).mono ?_
  rintro e v4 ⟨rfl,hE4⟩
  have hs4:=hs3.kq hE4
  have hX4:Ext w' v4:=hG1.trans (hG3.trans hE4)
  cases hin:insB lo up hl hu p.f0 with
  |false=>
   refine ⟨.bl false,[],_,rfl,hs4,fun hV4=>?_⟩
   refine gr0 (bs:=[bb,tb,xb,pb]) 200 ⟨[],4,[],[],0⟩ hV4 fun v5 hG5 hV5=>?_
   have hs5:=hV5.sq (HB3 a xs.length c lo up hl hu (some a1) A3 c1 c3 x++[⟨57,[.oc (.string p.f0) rfl,.si .u64 p.f1,.oc (.string p.f2) rfl]⟩])
   refine go_fin (Hand (JI3 a xs.length c A2 mm c2 xs lo up hl hu j a1 c1 A3 c3 x bb tb xb W) mi) (by kernel_rfl) (fun ys=>TI3 a xs.length c A2 mm c2 j a1 x.f1.length c1 fv (IntKind.i64.wrap ((i:Int)+1)) ys) (by kernel_rfl) (fun ys=>?_)
   rw [wrap_succ i (by omega)]
   refine ⟨mi - 1,by omega,[bb,tb,xb],TI3 a xs.length c A2 mm c2 j a1 x.f1.length c1 fv ((i+1:Nat):Int) ys,HB3 a xs.length c lo up hl hu (some a1) A3 c1 c3 x,?_,hs5.sub [0,1,2] (by decide) (by simp) rfl ⟨hs5.memC 0 rfl (by kernel_rfl),hs5.memC 1 rfl (by kernel_rfl),hs5.memC 2 rfl (by kernel_rfl),trivial⟩,?_⟩
   ·exact actS_cut [bb,tb,xb] [pb] _ (by kernel_rfl)
   ·refine ⟨i+1,ys,fv,by omega,by omega,rfl,rfl,rfl,?_,hK.tr (hX4.trans hG5) (ts:=[57])⟩
    rw [hacc,show [p].filter (fun e=>insB lo up hl hu e.f0)=[] by simp [hin],List.append_nil]
    exact own_kept hown (hX4.trans hG5) (by simp)
  |true=>
   refine ⟨.bl true,[],_,rfl,hs4,fun hV4=>?_⟩
   refine gr0 (bs:=[bb,tb,xb,pb]) 200 ⟨[],4,[],[],0⟩ hV4 fun v5 hG5 hV5=>?_
   refine go_bslice 53 57 3 (.tmp 93) [.oc (.string p.f0) rfl,.si .u64 p.f1,.oc (.string p.f2) rfl] (HB3 a xs.length c lo up hl hu (some a1) A3 c1 c3 x++[⟨57,[.oc (.string p.f0) rfl,.si .u64 p.f1,.oc (.string p.f2) rfl]⟩]) (by kernel_rfl) (by kernel_rfl) (by kernel_rfl) (by kernel_rfl) rfl (by omega) (by omega) hV5 (by kernel_rfl) (by kernel_rfl) (by kernel_rfl) (fun rb v6 hrb hE6 hV6=>?_)
   have hs6:=hV6.sq (HB3 a xs.length c lo up hl hu (some a1) A3 c1 c3 x++[⟨57,[.oc (.string p.f0) rfl,.si .u64 p.f1,.oc (.string p.f2) rfl]⟩]++[⟨57,[.oc (.string p.f0) rfl,.si .u64 p.f1,.oc (.string p.f2) rfl]⟩])
   have hX5:Ext w' v5:=hX4.trans hG5
   have hX6:Ext w' v6:=hX5.trans hE6
   have hown6:=own_kept hown hX6 (by simp)
   refine go_append 53 57 3 40 (.agg #[.string ⟨#[]⟩,.int .u64 0,.string ⟨#[]⟩]) (.tmp 92) (.tmp 94) fv.1 (accI xs lo up hl hu j x.f1 i).length ((accI xs lo up hl hu j x.f1 i).flatMap cells57) ⟨rb,0,none⟩ 1 1 (cells57 p) (HB3 a xs.length c lo up hl hu (some a1) A3 c1 c3 x++[⟨57,[.oc (.string p.f0) rfl,.si .u64 p.f1,.oc (.string p.f2) rfl]⟩]++[⟨57,[.oc (.string p.f0) rfl,.si .u64 p.f1,.oc (.string p.f2) rfl]⟩]) (by kernel_rfl) (by kernel_rfl) (by kernel_rfl) (by kernel_rfl) (by kernel_rfl) rfl (by omega) hV6 (by kernel_rfl) hown6 rfl ?_ ?_ ?_ ?_ ?_ ?_
   ·intro k u hu'
    match k,hu' with
    |0,hu'=>cases hu';exact hs6.cell 4 57 [.oc (.string p.f0) rfl,.si .u64 p.f1,.oc (.string p.f2) rfl] rfl 0 (.oc (.string p.f0) rfl) rfl
    |1,hu'=>cases hu';exact hs6.cell 4 57 [.oc (.string p.f0) rfl,.si .u64 p.f1,.oc (.string p.f2) rfl] rfl 1 (.si .u64 p.f1) rfl
    |2,hu'=>cases hu';exact hs6.cell 4 57 [.oc (.string p.f0) rfl,.si .u64 p.f1,.oc (.string p.f2) rfl] rfl 2 (.oc (.string p.f2) rfl) rfl
   ·intro u hu'
    simp only [cells57,List.mem_cons,List.not_mem_nil,or_false] at hu'
    rcases hu' with rfl|rfl|rfl<;>rfl
   ·simp only [maxLen];omega
   ·omega
   ·intro b hb he
    have hb3:b∈[bb,tb,xb,pb,rb]:=hb
    have hlt':=own_lt' hown b he.symm
    simp only [List.mem_cons,List.not_mem_nil,or_false] at hb3
    rcases hb3 with rfl|rfl|rfl|rfl|rfl
    ·exact own_ne_ty hown6 he.symm (hs6.mem 0 _ rfl) (by simp)
    ·exact own_ne_ty hown6 he.symm (hs6.mem 1 _ rfl) (by simp)
    ·exact own_ne_ty hown6 he.symm (hs6.mem 2 _ rfl) (by simp)
    ·have h1:=hnb3 b (by simp)
     have h2:=hG1.size
     omega
    ·have h9:=hX5.size
     omega
   ·intro v' v7 ho hown7 hK7 _ hor hV7
    refine gr0 (bs:=[bb,tb,xb,pb,rb]) 200 ⟨[],5,[],[],0⟩ hV7 fun v8 hK8 hV8=>?_
    have hs8:=hV8.sq (HB3 a xs.length c lo up hl hu (some a1) A3 c1 c3 x++[⟨57,[.oc (.string p.f0) rfl,.si .u64 p.f1,.oc (.string p.f2) rfl]⟩]++[⟨57,[.oc (.string p.f0) rfl,.si .u64 p.f1,.oc (.string p.f2) rfl]⟩])
    have hK8':Kept [57] W v8:=hK.tr (hX6.tr (hK7.tr hK8 (ts:=[57])) (ts:=[57])) (ts:=[57])
    refine go_fin (Hand (JI3 a xs.length c A2 mm c2 xs lo up hl hu j a1 c1 A3 c3 x bb tb xb W) mi) (by kernel_rfl) (fun ys=>TI3 a xs.length c A2 mm c2 j a1 x.f1.length c1 ⟨v',ho⟩ (IntKind.i64.wrap ((i:Int)+1)) ys) (by kernel_rfl) (fun ys=>?_)
    rw [wrap_succ i (by omega)]
    refine ⟨mi - 1,by omega,[bb,tb,xb],TI3 a xs.length c A2 mm c2 j a1 x.f1.length c1 ⟨v',ho⟩ ((i+1:Nat):Int) ys,HB3 a xs.length c lo up hl hu (some a1) A3 c1 c3 x,?_,hs8.sub [0,1,2] (by decide) (by simp) rfl ⟨hs8.memC 0 rfl (by kernel_rfl),hs8.memC 1 rfl (by kernel_rfl),hs8.memC 2 rfl (by kernel_rfl),trivial⟩,?_⟩
    ·exact actS_cut [bb,tb,xb] [pb,rb] _ (by kernel_rfl)
    ·refine ⟨i+1,ys,⟨v',ho⟩,by omega,by omega,rfl,rfl,rfl,?_,hK8'⟩
     rw [hacc,show [p].filter (fun e=>insB lo up hl hu e.f0)=[p] by simp [hin],List.length_append,List.flatMap_append]
     have e2:[p].flatMap cells57=cells57 p:=by simp
     rw [e2]
     exact own_kept hown7 hK8 (by simp)
 ·obtain rfl:i=x.f1.length:=by omega
  refine go_run (s:=bodyS (SI3 a xs.length c A2 mm c2 lo up hl hu j a1 c1 A3 c3 x fv0 ys0 q) (Hand (JI3 a xs.length c A2 mm c2 xs lo up hl hu j a1 c1 A3 c3 x bb tb xb W) mi) (TI3 a xs.length c A2 mm c2 j a1 x.f1.length c1 fv x.f1.length ys) (HB3 a xs.length c lo up hl hu (some a1) A3 c1 c3 x)) (bs:=[bb,tb,xb]) 200 ⟨[],3,[],[(85,false)],0⟩ (by kernel_rfl) hW' rfl [(decide ((x.f1.length:Int) < x.f1.length),false)] (by kernel_rfl) ⟨by simp,trivial⟩ ?_
  intro nw v1 _ hG1 hV1
  obtain rfl:=nw0 (hV1.num 3 (by kernel_rfl)) rfl
  have hs1:=hV1.sq (HB3 a xs.length c lo up hl hu (some a1) A3 c1 c3 x)
  have hacc:accI xs lo up hl hu j x.f1 x.f1.length=accT xs lo up hl hu (j+1):=by
   unfold accI accT
   rw [List.take_length,List.take_succ_eq_append_getElem hj,List.flatMap_append,List.filter_append,hx]
   simp
  refine go_fin q (by kernel_rfl) (fun ys=>T3L a xs.length c A2 mm c2 fv (IntKind.i64.wrap ((j:Int)+1)) ys) (by kernel_rfl) (fun ys=>?_)
  rw [wrap_succ j (by omega), ←hq]
  refine ⟨m - 1,by omega,[bb,tb],T3L a xs.length c A2 mm c2 fv ((j+1:Nat):Int) ys,HT3 (some a) xs.length c lo up hl hu,?_,hs1.sub [0,1] (by decide) (by simp) rfl ⟨hs1.memC 0 rfl (by kernel_rfl),hs1.memC 1 rfl (by kernel_rfl),trivial⟩,?_⟩
  ·exact actS_cut [bb,tb] [xb] _ (by kernel_rfl)
  ·refine ⟨j+1,ys,fv,by omega,by omega,rfl,rfl,rfl,⟨?_,fun y hy=>?_⟩,hK.tr hG1 (ts:=[57])⟩
   ·rw [←hacc];exact own_kept hown hG1 (by simp)
   ·rw [List.take_succ_eq_append_getElem hj] at hy
    rcases List.mem_append.1 hy with h|h
    ·exact htk y h
    ·simp only [List.mem_singleton] at h;rw [h,hx];exact ⟨h30,ht0⟩
theorem lp3 [Bd] (a:Addr) (c:Nat) (xs:List S56) (lo up:ByteArray) (hl hu:Bool) (A2:Option Addr) (c2:Nat) (steps:List S66) (W:World) (hw:W.heap.size=Bd.B) (hr:Kd.C k56 W (some a) xs.length xs) (hr2:Kd.C k66 W A2 steps.length steps) (hc2:steps.length≤c2) (S:Sml xs steps lo up)
  (hwell:WellT xs) (hmb:hu=true→hl=true→cmpB lo up≤0) (hn:xs.length≤10) (hm:steps.length≤40) (bb tb:Nat) (ys0:Nat→Value) (w:World) (hX:Ext W w)
  (hW:Wk [bb,tb] ⟨KL3,T3L a xs.length c A2 steps.length c2 nilV 0 ys0,HT3 (some a) xs.length c lo up hl hu,[]⟩ w):
  kx Tryz.prog (bodyPost Tryz.prog Tryz.f3 (R3 W)) KL3 .normal (actS [bb,tb] (T3L a xs.length c A2 steps.length c2 nilV 0 ys0)) w:=by
 refine go_loop (s:=SB3 a xs.length c A2 steps.length c2 lo up hl hu ys0) (bs:=[bb,tb]) (J3 a xs.length c A2 steps.length c2 xs lo up hl hu bb tb W) xs.length (by kernel_rfl) hW (fun ys=>T3L a xs.length c A2 steps.length c2 nilV 0 ys) (HT3 (some a) xs.length c lo up hl hu) (by kernel_rfl) (by kernel_rfl)
  (fun ys=>⟨0,ys,nilV,by omega,by omega,rfl,rfl,rfl,⟨World.ownsRow_nil _ _ _ _,fun x hx=>by simp at hx⟩,hX.mono (by simp)⟩) ?_ ?_
 ·rintro m bs' T H w' ⟨j,ys,fv,_,_,rfl,_⟩
  exact ⟨[],rfl⟩
 rintro m bs' T H w' ⟨j,ys,fv,hj,hmj,rfl,rfl,rfl,hI,hK⟩ hW'
 by_cases hlt:j < xs.length
 ·refine go_run (s:=bodyS (SB3 a xs.length c A2 steps.length c2 lo up hl hu ys0) (Hand (J3 a xs.length c A2 steps.length c2 xs lo up hl hu bb tb W) m) (T3L a xs.length c A2 steps.length c2 fv j ys) (HT3 (some a) xs.length c lo up hl hu)) (bs:=[bb,tb]) 200 ⟨[],2,[],[(56,true)],0⟩ (by kernel_rfl) hW' rfl [(decide ((j:Int) < xs.length),true),(decide ((0:Int)≤j),true),(decide ((j:Int) < xs.length),true)] (by kernel_rfl) ⟨by simpa using hlt,by simp,by simpa using hlt,trivial⟩ ?_
  intro nw v1 _ hG1 hV1
  obtain rfl:=nw0 (hV1.num 2 (by kernel_rfl)) rfl
  obtain ⟨ad,A1,c1,A3,c3,e1,g1,g2,g3,_,p4,p5,p6,p7⟩:=at56 hr j hlt
  cases e1
  have hKv1:Kept [57] W v1:=hK.tr hG1 (ts:=[57])
  have p1:=old_cell hKv1 hw g1
  have p2:=old_cell hKv1 hw g2
  have p3:=old_cell hKv1 hw g3
  clear g1 g2 g3
  have hxm:xs[j]∈xs:=List.getElem_mem hlt
  generalize hx:xs[j]=x at *
  refine go_loadA 56 (.tmp 57) (a.add ((j:Int).toNat*3)) [.si .u64 x.f0,.oc (.slice A1 x.f1.length c1) rfl,.oc (.slice A3 x.f2.length c3) rfl] (HT3 (some a) xs.length c lo up hl hu) (by kernel_rfl) (by kernel_rfl) (by kernel_rfl) (by kernel_rfl) hV1 (by kernel_rfl) ?_ (fun hV2=>?_)
  ·intro i y hy
   rw [Int.toNat_natCast]
   match i,hy with
   |0,hy=>cases hy;rw [show (a.add (j*3)).add 0=a.add (j*3) by simp [Addr.add]];exact p1
   |1,hy=>cases hy;exact p2
   |2,hy=>cases hy;exact p3
  refine gr1 (bs:=[bb,tb]) 200 ⟨[],2,[],[],0⟩ hV2 fun xb v3 _ hG3 hV3=>?_
  have hK3:Kept [57] W v3:=hK.tr (hG1.trans hG3) (ts:=[57])
  refine go_lenS 53 57 (.tmp 60) A1 x.f1.length c1 (HB3 a xs.length c lo up hl hu A1 A3 c1 c3 x) (by kernel_rfl) (by kernel_rfl) (by kernel_rfl) hV3 (by kernel_rfl) (fun hV4=>?_)
  by_cases h30:30 < x.f1.length
  ·refine gr0 (bs:=[bb,tb,xb]) 200 ⟨[],3,[],[(62,true)],0⟩ hV4 (fun va hGa hVa=>?_) [(decide ((x.f1.length:Int)>30),true)] ⟨decide_eq_true (by omega),trivial⟩
   refine gc 7 [] hVa ?_
   refine (c7E va).mono ?_
   rintro e vb ⟨rfl,hEb⟩
   refine ⟨.bl true,[],_,rfl,(hVa.sq (HB3 a xs.length c lo up hl hu A1 A3 c1 c3 x)).kq hEb,fun hVb=>?_⟩
   refine gr0 (bs:=[bb,tb,xb]) 200 ⟨[],3,[],[],0⟩ hVb fun vz hGz hVz=>?_
   exact gt (.bl true) hVz.sat ⟨rfl,Kept.toExt (hK3.tr (hGa.trans (hEb.trans hGz)) (ts:=[57])) hw⟩
  refine gr0 (bs:=[bb,tb,xb]) 200 ⟨[],3,[],[(62,false)],0⟩ hV4 (fun v5 hG5 hV5=>?_) [(decide ((x.f1.length:Int)>30),false)] ⟨decide_eq_false (by omega),trivial⟩
  have hK5:Kept [57] W v5:=hK3.tr hG5 (ts:=[57])
  refine go_lenS 54 253 (.tmp 65) A3 x.f2.length c3 (HB3 a xs.length c lo up hl hu A1 A3 c1 c3 x) (by kernel_rfl) (by kernel_rfl) (by kernel_rfl) hV5 (by kernel_rfl) (fun hV6=>?_)
  by_cases ht0:0 < x.f2.length
  ·refine gr0 (bs:=[bb,tb,xb]) 200 ⟨[],3,[],[(67,true)],0⟩ hV6 (fun va hGa hVa=>?_) [(decide ((x.f2.length:Int)>0),true)] ⟨decide_eq_true (by omega),trivial⟩
   refine gc 7 [] hVa ?_
   refine (c7E va).mono ?_
   rintro e vb ⟨rfl,hEb⟩
   refine ⟨.bl true,[],_,rfl,(hVa.sq (HB3 a xs.length c lo up hl hu A1 A3 c1 c3 x)).kq hEb,fun hVb=>?_⟩
   refine gr0 (bs:=[bb,tb,xb]) 200 ⟨[],3,[],[],0⟩ hVb fun vz hGz hVz=>?_
   exact gt (.bl true) hVz.sat ⟨rfl,Kept.toExt (hK5.tr (hGa.trans (hEb.trans hGz)) (ts:=[57])) hw⟩
  by_cases hx0:x.f0=0
  ·refine gr0 (bs:=[bb,tb,xb]) 200 ⟨[],3,[],[(67,false),(72,true)],0⟩ hV6 (fun va hGa hVa=>?_) [(decide ((x.f2.length:Int)>0),false),(decide (x.f0=0),true)] ⟨decide_eq_false (by omega),decide_eq_true hx0,trivial⟩
   refine gc 7 [] hVa ?_
   refine (c7E va).mono ?_
   rintro e vb ⟨rfl,hEb⟩
   refine ⟨.bl true,[],_,rfl,(hVa.sq (HB3 a xs.length c lo up hl hu A1 A3 c1 c3 x)).kq hEb,fun hVb=>?_⟩
   refine gr0 (bs:=[bb,tb,xb]) 200 ⟨[],3,[],[],0⟩ hVb fun vz hGz hVz=>?_
   exact gt (.bl true) hVz.sat ⟨rfl,Kept.toExt (hK5.tr (hGa.trans (hEb.trans hGz)) (ts:=[57])) hw⟩
  by_cases hx32:4294967296≤x.f0
  ·refine gr0 (bs:=[bb,tb,xb]) 200 ⟨[],3,[],[(67,false),(72,false),(77,true)],0⟩ hV6 (fun va hGa hVa=>?_) [(decide ((x.f2.length:Int)>0),false),(decide (x.f0=0),false),(decide (x.f0≥4294967296),true)] ⟨decide_eq_false (by omega),decide_eq_false hx0,decide_eq_true hx32,trivial⟩
   refine gc 7 [] hVa ?_
   refine (c7E va).mono ?_
   rintro e vb ⟨rfl,hEb⟩
   refine ⟨.bl true,[],_,rfl,(hVa.sq (HB3 a xs.length c lo up hl hu A1 A3 c1 c3 x)).kq hEb,fun hVb=>?_⟩
   refine gr0 (bs:=[bb,tb,xb]) 200 ⟨[],3,[],[],0⟩ hVb fun vz hGz hVz=>?_
   exact gt (.bl true) hVz.sat ⟨rfl,Kept.toExt (hK5.tr (hGa.trans (hEb.trans hGz)) (ts:=[57])) hw⟩
  refine gr0 (bs:=[bb,tb,xb]) 200 ⟨[],3,[],[(67,false),(72,false),(77,false)],0⟩ hV6 (fun v7 hG7 hV7=>?_) [(decide ((x.f2.length:Int)>0),false),(decide (x.f0=0),false),(decide (x.f0≥4294967296),false)] ⟨decide_eq_false (by omega),decide_eq_false hx0,decide_eq_false hx32,trivial⟩
  refine go_lenS 53 57 (.tmp 82) A1 x.f1.length c1 (HB3 a xs.length c lo up hl hu A1 A3 c1 c3 x) (by kernel_rfl) (by kernel_rfl) (by kernel_rfl) hV7 (by kernel_rfl) (fun hV8=>?_)
  refine gr0 (bs:=[bb,tb,xb]) 200 ⟨[],3,[],[],0⟩ hV8 fun v9 hG9 hV9=>?_
  have hK9:Kept [57] W v9:=hK5.tr (hG7.trans hG9) (ts:=[57])
  have hs9:=hV9.sq (HB3 a xs.length c lo up hl hu A1 A3 c1 c3 x)
  have hf2:x.f2=[]:=List.eq_nil_of_length_eq_zero (by omega)
  have hf1:0 < x.f1.length:=List.length_pos_iff.2 (hwell.some x hxm hf2)
  obtain ⟨a1,e1,_⟩:=at57 p5 0 hf1
  subst e1
  refine go_cutD (KB3 (Hand (J3 a xs.length c A2 steps.length c2 xs lo up hl hu bb tb W) m)) 119 (keep3 (some a) xs.length c A2 steps.length c2 fv [(53,.sl a xs.length c),(54,.si .i64 xs.length),(55,.si .i64 j),(11,.p 2 0),(82,.sl a1 x.f1.length c1),(83,.si .i64 x.f1.length),(84,.si .i64 0)]) (HB3 a xs.length c lo up hl hu (some a1) A3 c1 c3 x) (by kernel_rfl) (by kernel_rfl) (by kernel_rfl) hV9 hs9 (fun ys1 hWS=>?_)
  exact lpI a c xs lo up hl hu A2 steps.length c2 W hw j hlt hn a1 c1 A3 c3 x hx p5 (by omega) hf2 S.lo (fun p hp=>by have:=((S.sz x hxm).1 p hp).1;omega) hI.2 bb tb xb m (by omega) fv ys1 v9 hK9 (own_kept hI.1 (hG1.trans (hG3.trans (hG5.trans (hG7.trans hG9)))) (by simp)) hWS
 ·obtain rfl:xs.length=j:=by omega
  have hall:accT xs lo up hl hu xs.length=allT xs lo up hl hu:=by unfold accT allT ptsT;rw [List.take_length]
  have htx: ∀ x∈xs,x.f1.length≤30∧x.f2=[]:=fun x hx=>hI.2 x (by rw [List.take_length];exact hx)
  refine go_run (s:=bodyS (SB3 a xs.length c A2 steps.length c2 lo up hl hu ys0) (Hand (J3 a xs.length c A2 steps.length c2 xs lo up hl hu bb tb W) m) (T3L a xs.length c A2 steps.length c2 fv xs.length ys) (HT3 (some a) xs.length c lo up hl hu)) (bs:=[bb,tb]) 200 ⟨[],2,[],[(56,false)],0⟩ (by kernel_rfl) hW' rfl [(decide ((xs.length:Int) < xs.length),false)] (by kernel_rfl) ⟨by simp,trivial⟩ ?_
  intro nw v1 _ hG1 hV1
  obtain rfl:=nw0 (hV1.num 2 (by kernel_rfl)) rfl
  have hs1:=hV1.sq (HT3 (some a) xs.length c lo up hl hu)
  refine go_cut KT3 119 (keep3 (some a) xs.length c A2 steps.length c2 fv []) (HT3 (some a) xs.length c lo up hl hu) (by kernel_rfl) (by kernel_rfl) (by kernel_rfl) hV1 hs1 (fun ys1 hWS=>?_)
  exact c3_tail (some a) c xs lo up hl hu A2 c2 steps W hw hr hr2 hc2 S hwell htx hmb hn hm fv bb tb ys1 v1 (hK.tr hG1 (ts:=[57])) (by rw [←hall];exact own_kept hI.1 hG1 (by simp)) hWS
theorem c3 [Bd] (A:Option Addr) (c:Nat) (xs:List S56) (lo up:ByteArray) (hl hu:Bool) (A2:Option Addr) (c2:Nat) (steps:List S66) (W:World) (hw:W.heap.size=Bd.B) (hr:Kd.C k56 W A xs.length xs) (hc:xs.length≤c) (hr2:Kd.C k66 W A2 steps.length steps) (hc2:steps.length≤c2) (S:Sml xs steps lo up):
  Calls Tryz.prog 3 #[.slice A xs.length c,.agg #[.string lo,.bool hl,.string up,.bool hu],.slice A2 steps.length c2] W fun e w'=>e=.returned (.bool true)∧Ext W w':=by
 refine gs (bs:=[]) [.oc (.slice A xs.length c) rfl,.agg (B45 lo up hl hu),.oc (.slice A2 steps.length c2) rfl] [] Tryz.func3 (sat0 W (by omega)) (fun hW=>?_)
 refine gr1 200 ⟨[],0,[],[],0⟩ hW fun bb w1 _ hE1 hW1=>?_
 have hs1:=hW1.sq (H3a lo up hl hu)
 refine gc 4 [.oc (.slice A xs.length c) rfl] hW1 ?_
 refine (c4 A c xs w1 (Kd.C_below hr (Kept.toBelow hE1 hw)) (by have:=S.n;omega) S.fits).mono ?_
 rintro e w2 ⟨⟨b4,rfl⟩,hE2⟩
 refine ⟨.bl b4,[],H3a lo up hl hu,rfl,hs1.kq hE2,fun hW2=>?_⟩
 have hX2:Ext W w2:=hE1.trans hE2
 have hs2:=hs1.kq hE2
 clear hE1 hE2 hs1
 cases b4 with
 |false=>
  refine gr0 (bs:=[bb]) 200 ⟨[],1,[],[],0⟩ hW2 fun w3 hE3 hW3=>?_
  exact gt (.bl true) hW3.sat ⟨rfl,hX2.trans hE3⟩
 |true=>
 refine gr0 (bs:=[bb]) 200 ⟨[],1,[],[],0⟩ hW2 fun w3 hE3 hW3=>?_
 have hs3:=hW3.sq (H3a lo up hl hu)
 refine gc 5 [.agg (B45 lo up hl hu)] hW3 ?_
 refine (c5 lo up hl hu w3 S.bds).mono ?_
 rintro e w4 ⟨⟨b5,rfl⟩,hE4⟩
 refine ⟨.bl b5,[],H3a lo up hl hu,rfl,hs3.kq hE4,fun hW4=>?_⟩
 have hX4:Ext W w4:=hX2.trans (hE3.trans hE4)
 clear hX2 hE3 hE4 hs2 hs3
 cases b5 with
 |false=>
  refine gr0 (bs:=[bb]) 200 ⟨[],1,[],[],0⟩ hW4 fun w5 hE5 hW5=>?_
  exact gt (.bl true) hW5.sat ⟨rfl,hX4.trans hE5⟩
 |true=>
 refine gr0 (bs:=[bb]) 200 ⟨[],1,[],[],0⟩ hW4 fun w5 hE5 hW5=>?_
 have hs5:=hW5.sq (H3a lo up hl hu)
 refine gc 6 [.oc (.slice A2 steps.length c2) rfl] hW5 ?_
 refine (c6 A2 c2 steps w5 (Kd.C_below hr2 (Kept.toBelow (hX4.trans hE5) hw)) (by have:=S.m;omega) S.stp).mono ?_
 rintro e w6 ⟨⟨b6,rfl⟩,hE6⟩
 refine ⟨.bl b6,[],H3a lo up hl hu,rfl,hs5.kq hE6,fun hW6=>?_⟩
 have hX6:Ext W w6:=hX4.trans (hE5.trans hE6)
 clear hX4 hE5 hE6 hs5
 cases b6 with
 |false=>
  refine gr0 (bs:=[bb]) 200 ⟨[],1,[],[],0⟩ hW6 fun w7 hE7 hW7=>?_
  exact gt (.bl true) hW7.sat ⟨rfl,hX6.trans hE7⟩
 |true=>
 refine gr1 (bs:=[bb]) 200 ⟨[],1,[],[],0⟩ hW6 fun tb w7 _ hE7 hW7=>?_
 have hX7:Ext W w7:=hX6.trans hE7
 clear hX6 hE7
 refine go_lenS 22 56 (.tmp 33) A xs.length c (HT3 A xs.length c lo up hl hu) (by kernel_rfl) (by kernel_rfl) (by kernel_rfl) hW7 (by kernel_rfl) (fun hW8=>?_)
 by_cases hn10:10 < xs.length
 ·refine gr0 (bs:=[bb,tb]) 200 ⟨[],2,[],[(35,true)],0⟩ hW8 (fun w8 hE8 hW8=>?_) [(decide ((xs.length:Int)>10),true)] ⟨decide_eq_true (by omega),trivial⟩
  refine gc 7 [] hW8 ?_
  refine (c7 w8 hW8.sz).mono ?_
  rintro e wa ⟨rfl,hKa⟩
  refine ⟨.bl true,[],_,rfl,(hW8.sq (HT3 A xs.length c lo up hl hu)).kq hKa,fun hWa=>?_⟩
  refine gr0 (bs:=[bb,tb]) 200 ⟨[],2,[],[],0⟩ hWa fun wz hEz hWz=>?_
  exact gt (.bl true) hWz.sat ⟨rfl,Kept.toExt ((hX7.trans hE8).tr (hKa.tr hEz (ts:=KTL)) (ts:=KTL)) hw⟩
 refine gr0 (bs:=[bb,tb]) 200 ⟨[],2,[],[(35,false)],0⟩ hW8 (fun w8 hE8 hW8=>?_) [(decide ((xs.length:Int)>10),false)] ⟨decide_eq_false (by omega),trivial⟩
 have hs8:=hW8.sq (HT3 A xs.length c lo up hl hu)
 have hX8:Ext W w8:=hX7.trans hE8
 refine gc 10 [.agg [.ns,.ns,.oc (.slice A xs.length c) rfl,.ns,.ns,.ns,.ns,.ns]] hW8 ?_
 refine (c10 A c xs w8 (Kd.C_below hr (Kept.toBelow hX8 hw)) hc (by omega) S.pts S.tombs S.keys S.sz hW8.sz).mono ?_
 rintro e w9 ⟨⟨b10,rfl,hwell⟩,hE9⟩
 refine ⟨.bl b10,[],_,rfl,hs8.kq hE9,fun hW9=>?_⟩
 have hX9:Ext W w9:=hX8.trans hE9
 clear hW8 hs8 hX7 hE8 hX8 hE9
 cases b10 with
 |false=>
  refine gr0 (bs:=[bb,tb]) 200 ⟨[],2,[],[],0⟩ hW9 fun w10 hE10 hW10=>?_
  refine gc 7 [] hW10 ?_
  refine (c7 w10 hW10.sz).mono ?_
  rintro e wa ⟨rfl,hKa⟩
  refine ⟨.bl true,[],_,rfl,(hW10.sq (HT3 A xs.length c lo up hl hu)).kq hKa,fun hWa=>?_⟩
  refine gr0 (bs:=[bb,tb]) 200 ⟨[],2,[],[],0⟩ hWa fun wz hEz hWz=>?_
  exact gt (.bl true) hWz.sat ⟨rfl,Kept.toExt ((hX9.trans hE10).tr (hKa.tr hEz (ts:=KTL)) (ts:=KTL)) hw⟩
 |true=>
 replace hwell:=hwell rfl
 refine gr0 (bs:=[bb,tb]) 200 ⟨[],2,[],[],0⟩ hW9 fun w10 hE10 hW10=>?_
 have hs10:=hW10.sq (HT3 A xs.length c lo up hl hu)
 refine gc 11 [.agg (B45 lo up hl hu)] hW10 ?_
 refine (c11 lo up hl hu S.lo w10).mono ?_
 rintro e w11 ⟨⟨b11,rfl,hmb⟩,hE11⟩
 refine ⟨.bl b11,[],_,rfl,hs10.kq hE11,fun hW11=>?_⟩
 have hX11:Ext W w11:=hX9.trans (hE10.trans hE11)
 clear hW10 hs10 hX9 hE10 hE11
 cases b11 with
 |false=>
  refine gr0 (bs:=[bb,tb]) 200 ⟨[],2,[],[],0⟩ hW11 fun w12 hE12 hW12=>?_
  refine gc 7 [] hW12 ?_
  refine (c7 w12 hW12.sz).mono ?_
  rintro e wa ⟨rfl,hKa⟩
  refine ⟨.bl true,[],_,rfl,(hW12.sq (HT3 A xs.length c lo up hl hu)).kq hKa,fun hWa=>?_⟩
  refine gr0 (bs:=[bb,tb]) 200 ⟨[],2,[],[],0⟩ hWa fun wz hEz hWz=>?_
  exact gt (.bl true) hWz.sat ⟨rfl,Kept.toExt ((hX11.trans hE12).tr (hKa.tr hEz (ts:=KTL)) (ts:=KTL)) hw⟩
 |true=>
 replace hmb:=hmb rfl
 refine gr0 (bs:=[bb,tb]) 200 ⟨[],2,[],[],0⟩ hW11 fun w12 hE12 hW12=>?_
 have hX12:Ext W w12:=hX11.trans hE12
 refine go_lenS 25 66 (.tmp 47) A2 steps.length c2 (HT3 A xs.length c lo up hl hu) (by kernel_rfl) (by kernel_rfl) (by kernel_rfl) hW12 (by kernel_rfl) (fun hW13=>?_)
 by_cases hm40:40 < steps.length
 ·refine gr0 (bs:=[bb,tb]) 200 ⟨[],2,[],[(49,true)],0⟩ hW13 (fun w13 hE13 hW13=>?_) [(decide ((steps.length:Int)>40),true)] ⟨decide_eq_true (by omega),trivial⟩
  refine gc 7 [] hW13 ?_
  refine (c7 w13 hW13.sz).mono ?_
  rintro e wa ⟨rfl,hKa⟩
  refine ⟨.bl true,[],_,rfl,(hW13.sq (HT3 A xs.length c lo up hl hu)).kq hKa,fun hWa=>?_⟩
  refine gr0 (bs:=[bb,tb]) 200 ⟨[],2,[],[],0⟩ hWa fun wz hEz hWz=>?_
  exact gt (.bl true) hWz.sat ⟨rfl,Kept.toExt ((hX12.trans hE13).tr (hKa.tr hEz (ts:=KTL)) (ts:=KTL)) hw⟩
 refine gr0 (bs:=[bb,tb]) 200 ⟨[],2,[],[(49,false)],0⟩ hW13 (fun w13 hE13 hW13=>?_) [(decide ((steps.length:Int)>40),false)] ⟨decide_eq_false (by omega),trivial⟩
 have hX13:Ext W w13:=hX12.trans hE13
 refine go_lenS 22 56 (.tmp 53) A xs.length c (HT3 A xs.length c lo up hl hu) (by kernel_rfl) (by kernel_rfl) (by kernel_rfl) hW13 (by kernel_rfl) (fun hW14=>?_)
 by_cases h0:xs=[]
 ·have hl0:xs.length=0:=by rw [h0];rfl
  refine gr0 (bs:=[bb,tb]) 200 ⟨[],2,[],[(56,false)],1⟩ hW14 (fun w14 hE14 hW14=>?_) [(decide ((0:Int) < xs.length),false)] ⟨decide_eq_false (by omega),trivial⟩
  have hs14:=hW14.sq (HT3 A xs.length c lo up hl hu)
  refine go_cutD KT3 119 (keep3 A xs.length c A2 steps.length c2 nilV []) (HT3 A xs.length c lo up hl hu) (by kernel_rfl) (by kernel_rfl) (by kernel_rfl) hW14 hs14 (fun ys hWS=>?_)
  have hz:allT xs lo up hl hu=[]:=by rw [h0];rfl
  exact c3_tail A c xs lo up hl hu A2 c2 steps W hw hr hr2 hc2 S hwell (fun x hx=>by rw [h0] at hx;cases hx) hmb (by omega) (by omega) nilV bb tb ys w14 ((hX13.trans hE14).mono (by simp)) (by rw [hz];exact World.ownsRow_nil _ _ _ _) hWS
 ·obtain ⟨a,_,_,_,_,e1,_⟩:=at56 hr 0 (List.length_pos_iff.2 h0)
  subst e1
  refine gr0 (bs:=[bb,tb]) 200 ⟨[],2,[],[],0⟩ hW14 fun w14 hE14 hW14=>?_
  have hs14:=hW14.sq (HT3 (some a) xs.length c lo up hl hu)
  refine go_cutD KL3 119 (keep3 (some a) xs.length c A2 steps.length c2 nilV [(53,.sl a xs.length c),(54,.si .i64 xs.length),(55,.si .i64 0)]) (HT3 (some a) xs.length c lo up hl hu) (by kernel_rfl) (by kernel_rfl) (by kernel_rfl) hW14 hs14 (fun ys hWS=>?_)
  exact lp3 a c xs lo up hl hu A2 c2 steps W hw hr hr2 hc2 S hwell hmb (by omega) (by omega) bb tb ys w14 (hX13.trans hE14) hWS
section
variable {H:Type} {enc:TypeId×Value→H} {W:World} {α β γ σ:Type}
def Opens (enc:TypeId×Value→H) (W:World) (t:TypeId) (d:Kd α) (ms:α→Nat) (ok:α→Prop):Prop:=
 ∀ (fuel:Nat) (cs:List Value) (x:DataW H×List MemPlace),DataW.trod enc Tryz.prog W 0 (fun _=>true) true fuel t cs=some x→ ∃ a,d.K W a cs∧ms a≤Rows.uptoBulk x.1∧ok a
theorem op_string {t:TypeId} (hu:Tryz.prog.underlying t=some .string):Opens enc W t Kd.string (fun s=>s.size+1) (fun _=>True):=by
 intro fuel cs x h
 obtain ⟨s,rfl,rfl,_⟩:=DataW.trod_string hu h
 refine ⟨s,rfl,?_,trivial⟩
 simp only [Rows.uptoBulk,Array.length_toList]
 exact Nat.le_refl _
theorem op_int {t:TypeId} {k:IntKind} (hu:Tryz.prog.underlying t=some (.int k)):Opens enc W t (Kd.int k) (fun _=>1) (fun n=>k.min≤n∧n≤k.max):=by
 intro fuel cs x h
 obtain ⟨n,rfl,rfl,hw⟩:=DataW.trod_int hu h
 refine ⟨n,rfl,by simp [Rows.uptoBulk],?_⟩
 simpa [Lit.wf] using hw
theorem op_elems {e:TypeId} {d:Kd α} {ms:α→Nat} {ok:α→Prop} (ho:Opens enc W e d ms ok) (a:Addr) (n:Nat):
  ∀ (l:List (DataW H×List MemPlace)) (off:Nat),(∀ i,i < l.length→(W.cells? 0 (a.add ((off+i)*d.sz)) d.sz).bind (DataW.trod enc Tryz.prog W 0 (fun _=>true) true n e)=l[i]?)→
  ∃ xs:List α,xs.length=l.length∧(xs.map ms).sum≤Rows.uptoBulkAll (l.map (·.1))∧(∀ x∈xs,ok x)∧
   ∀ j p,xs[j]? =some p→ ∃ c,c.length=d.sz∧d.K W p c∧ ∀ i u,c[i]? =some u→W.cell? (a.add ((off+j)*d.sz+i))=some u:=by
 intro l
 induction l with
 |nil=>intro off _;exact ⟨[],rfl,Nat.zero_le _,(fun x hx=>nomatch hx),(fun j p h=>nomatch h)⟩
 |cons y l ih=>
  intro off h
  obtain ⟨xs,h1,h2,h3,h4⟩:=ih (off+1) (fun i hi=>by
   have:=h (i+1) (by simp;omega)
   rw [show off+1+i=off+(i+1) by omega]
   simpa using this)
  have h0:=h 0 (by simp)
  rw [Nat.add_zero,List.getElem?_cons_zero] at h0
  obtain ⟨c,hc,ht⟩:=Option.bind_eq_some_iff.1 h0
  obtain ⟨x,hK,hm,hk⟩:=ho n c y ht
  obtain ⟨_,hl,hcell⟩:=World.cells?_some hc
  refine ⟨x::xs,by simp [h1],?_,?_,?_⟩
  ·simp only [List.map_cons,List.sum_cons,Rows.uptoBulkAll]
   omega
  ·intro z hz
   rcases List.mem_cons.1 hz with rfl|hz
   ·exact hk
   ·exact h3 z hz
  ·intro j p hj
   cases j with
   |zero=>
    obtain rfl:x=p:=by simpa using hj
    refine ⟨c,hl,hK,fun i u hu=>?_⟩
    have hi:i < d.sz:=by have:=(List.getElem?_eq_some_iff.1 hu).1;omega
    rw [Nat.add_zero, ←Addr.add_add,hcell i hi]
    exact hu
   |succ j=>
    obtain ⟨c',e1,e2,e3⟩:=h4 j p (by simpa using hj)
    refine ⟨c',e1,e2,fun i u hu=>?_⟩
    rw [show off+(j+1)=off+1+j by omega]
    exact e3 i u hu
theorem op_slice {t e:TypeId} {d:Kd α} {ms:α→Nat} {ok:α→Prop} (hu:Tryz.prog.underlying t=some (.slice e)) (hz:Tryz.prog.cellsOf e=d.sz) (ho:Opens enc W e d ms ok):
  Opens enc W t (Kd.slice e d) (fun xs=>(xs.map ms).sum+1) (fun xs=> ∀ x∈xs,ok x):=by
 intro fuel cs x h
 rcases DataW.trod_slice hu h with ⟨rfl,rfl⟩|⟨a,len,cap,elems,rest,n,_,rfl,rfl,_,h1,h2,h3,h4,_,_⟩
 ·exact ⟨[],⟨none,0,rfl,Nat.le_refl _,rfl,Nat.zero_le _,fun h=>absurd h (Nat.lt_irrefl _)⟩,by simp [Rows.uptoBulk],fun x hx=>by cases hx⟩
 ·obtain ⟨xs,e1,e2,e3,e4⟩:=op_elems ho a n elems 0 (fun i hi=>by rw [Nat.zero_add, ←hz];exact h4 i (by omega))
  refine ⟨xs,⟨some a,cap,by rw [e1,h3],by rw [e1,h3];exact h1,rfl,?_,fun _=>⟨a,rfl,fun j p hj=>?_⟩⟩,?_,e3⟩
  ·simp only [maxLen] at h2
   omega
  ·have:=e4 j p hj
   rw [Nat.zero_add] at this
   exact this
  ·simp only [Rows.uptoBulk]
   omega
theorem op_s2 {t:TypeId} {f0 f1:Field} {a:Kd α} {b:Kd β} {m0:α→Nat} {m1:β→Nat} {o0:α→Prop} {o1:β→Prop} (f:σ→α×β) (g:α→β→σ) (hfg: ∀ x y,f (g x y)=(x,y))
  (hu:Tryz.prog.underlying t=some (.struct #[f0,f1])) (ho:f0.offset=0∧f1.offset=a.sz∧Tryz.prog.cellsOf f0.type=a.sz∧Tryz.prog.cellsOf f1.type=b.sz∧Tryz.prog.cellsOf t=a.sz+b.sz)
  (h0:Opens enc W f0.type a m0 o0) (h1:Opens enc W f1.type b m1 o1):
  Opens enc W t (Kd.iso (Kd.pair a b) f) (fun s=>m0 (f s).1+m1 (f s).2+1) (fun s=>o0 (f s).1∧o1 (f s).2):=by
 intro fuel cs x h
 obtain ⟨xs,n,_,rfl,hl,hn,hf⟩:=DataW.trod_struct hu h
 obtain ⟨z0,z1,z2,z3,z4⟩:=ho
 match xs,hn with
 |[y0,y1],_=>
  obtain ⟨x0,k0,b0,r0⟩:=h0 n _ y0 (by simpa using hf 0 f0 rfl)
  obtain ⟨x1,k1,b1,r1⟩:=h1 n _ y1 (by simpa using hf 1 f1 rfl)
  rw [z0,z2,List.drop_zero] at k0
  rw [z1,z3] at k1
  refine ⟨g x0 x1,?_,?_,?_⟩
  ·show ∃ c0 c1,cs=c0++c1∧a.K W (f (g x0 x1)).1 c0∧b.K W (f (g x0 x1)).2 c1
   rw [hfg]
   refine ⟨_,_,?_,k0,k1⟩
   rw [List.take_of_length_le (l:=cs.drop a.sz) (by rw [List.length_drop];omega),List.take_append_drop]
  ·simp only [hfg,Rows.uptoBulk,Rows.uptoBulkAll,List.map_cons,List.map_nil]
   omega
  ·simp only [hfg]
   exact ⟨r0,r1⟩
theorem op_s3 {t:TypeId} {f0 f1 f2:Field} {a:Kd α} {b:Kd β} {c:Kd γ} {m0:α→Nat} {m1:β→Nat} {m2:γ→Nat} {o0:α→Prop} {o1:β→Prop} {o2:γ→Prop} (f:σ→α×β×γ) (g:α→β→γ→σ) (hfg: ∀ x y z,f (g x y z)=(x,y,z))
  (hu:Tryz.prog.underlying t=some (.struct #[f0,f1,f2])) (ho:f0.offset=0∧f1.offset=a.sz∧f2.offset=a.sz+b.sz∧Tryz.prog.cellsOf f0.type=a.sz∧Tryz.prog.cellsOf f1.type=b.sz∧Tryz.prog.cellsOf f2.type=c.sz∧Tryz.prog.cellsOf t=a.sz+(b.sz+c.sz))
  (h0:Opens enc W f0.type a m0 o0) (h1:Opens enc W f1.type b m1 o1) (h2:Opens enc W f2.type c m2 o2):
  Opens enc W t (Kd.iso (Kd.pair a (Kd.pair b c)) f) (fun s=>m0 (f s).1+m1 (f s).2.1+m2 (f s).2.2+1) (fun s=>o0 (f s).1∧o1 (f s).2.1∧o2 (f s).2.2):=by
 intro fuel cs x h
 obtain ⟨xs,n,_,rfl,hl,hn,hf⟩:=DataW.trod_struct hu h
 obtain ⟨z0,z1,z2,z3,z4,z5,z6⟩:=ho
 match xs,hn with
 |[y0,y1,y2],_=>
  obtain ⟨x0,k0,b0,r0⟩:=h0 n _ y0 (by simpa using hf 0 f0 rfl)
  obtain ⟨x1,k1,b1,r1⟩:=h1 n _ y1 (by simpa using hf 1 f1 rfl)
  obtain ⟨x2,k2,b2,r2⟩:=h2 n _ y2 (by simpa using hf 2 f2 rfl)
  rw [z0,z3,List.drop_zero] at k0
  rw [z1,z4] at k1
  rw [z2,z5] at k2
  refine ⟨g x0 x1 x2,?_,?_,?_⟩
  ·show ∃ c0 c1,cs=c0++c1∧a.K W (f (g x0 x1 x2)).1 c0∧ ∃ c2 c3,c1=c2++c3∧b.K W (f (g x0 x1 x2)).2.1 c2∧c.K W (f (g x0 x1 x2)).2.2 c3
   rw [hfg]
   refine ⟨_,cs.drop a.sz,(List.take_append_drop a.sz cs).symm,k0,_,_,?_,k1,k2⟩
   rw [←List.drop_drop,List.take_of_length_le (l:=(cs.drop a.sz).drop b.sz) (by rw [List.length_drop,List.length_drop];omega),List.take_append_drop]
  ·simp only [hfg,Rows.uptoBulk,Rows.uptoBulkAll,List.map_cons,List.map_nil]
   omega
  ·simp only [hfg]
   exact ⟨r0,r1,r2⟩
abbrev m57 (x:S57):Nat:=(x.f0.size+1)+1+(x.f2.size+1)+1
abbrev m335 (x:S335):Nat:=1+(x.f1.size+1)+(x.f2.size+1)+1
abbrev m253 (x:S253):Nat:=(x.f0.size+1)+(x.f1.size+1)+((x.f2.map m335).sum+1)+1
abbrev m56 (x:S56):Nat:=1+((x.f1.map m57).sum+1)+((x.f2.map m253).sum+1)+1
abbrev m66 (x:S66):Nat:=1+(x.f1.size+1)+1
abbrev ok57 (x:S57):Prop:=True∧(IntKind.u64.min≤x.f1∧x.f1≤IntKind.u64.max)∧True
theorem op57:Opens enc W 57 k57 m57 ok57:=op_s3 (fun x:S57=>(x.f0,x.f1,x.f2)) S57.mk (fun _ _ _=>rfl) Tryz.underlying57 ⟨rfl,rfl,rfl,by kernel_rfl,by kernel_rfl,by kernel_rfl,by kernel_rfl⟩ (op_string Tryz.underlying9) (op_int Tryz.underlying33) (op_string Tryz.underlying9)
theorem op335:Opens enc W 335 k335 m335 (fun x=>(IntKind.u64.min≤x.f0∧x.f0≤IntKind.u64.max)∧True∧True):=op_s3 (fun x:S335=>(x.f0,x.f1,x.f2)) S335.mk (fun _ _ _=>rfl) Tryz.underlying335 ⟨rfl,rfl,rfl,by kernel_rfl,by kernel_rfl,by kernel_rfl,by kernel_rfl⟩ (op_int Tryz.underlying33) (op_string Tryz.underlying9) (op_string Tryz.underlying9)
theorem op253:Opens enc W 253 k253 m253 (fun x=>True∧True∧ ∀ y∈x.f2,(IntKind.u64.min≤y.f0∧y.f0≤IntKind.u64.max)∧True∧True):=op_s3 (fun x:S253=>(x.f0,x.f1,x.f2)) S253.mk (fun _ _ _=>rfl) Tryz.underlying253 ⟨rfl,rfl,rfl,by kernel_rfl,by kernel_rfl,by kernel_rfl,by kernel_rfl⟩ (op_string Tryz.underlying9) (op_string Tryz.underlying9) (op_slice (by kernel_rfl) (by kernel_rfl) op335)
theorem op56:Opens enc W 56 k56 m56 (fun x=>(IntKind.u64.min≤x.f0∧x.f0≤IntKind.u64.max)∧(∀ y∈x.f1,ok57 y)∧ ∀ y∈x.f2,True∧True∧ ∀ z∈y.f2,(IntKind.u64.min≤z.f0∧z.f0≤IntKind.u64.max)∧True∧True):=op_s3 (fun x:S56=>(x.f0,x.f1,x.f2)) S56.mk (fun _ _ _=>rfl) Tryz.underlying56 ⟨rfl,rfl,rfl,by kernel_rfl,by kernel_rfl,by kernel_rfl,by kernel_rfl⟩ (op_int Tryz.underlying33) (op_slice (by kernel_rfl) (by kernel_rfl) op57) (op_slice (by kernel_rfl) (by kernel_rfl) op253)
theorem op66:Opens enc W 66 k66 m66 (fun x=>(IntKind.u8.min≤x.f0∧x.f0≤IntKind.u8.max)∧True):=op_s2 (fun x:S66=>(x.f0,x.f1)) S66.mk (fun _ _=>rfl) Tryz.underlying66 ⟨rfl,rfl,by kernel_rfl,by kernel_rfl,by kernel_rfl⟩ (op_int Tryz.underlying5) (op_string Tryz.underlying9)
end
theorem sum_len {α:Type} {m:α→Nat} (hm: ∀ x,1≤m x) (l:List α):l.length≤(l.map m).sum:=by
 induction l with
 |nil=>exact Nat.le_refl _
 |cons a l ih=>have:=hm a;simp only [List.length_cons,List.map_cons,List.sum_cons];omega
theorem sum_mem {α:Type} (m:α→Nat) {l:List α} {x:α} (hx:x∈l):m x≤(l.map m).sum:=by
 induction l with
 |nil=>cases hx
 |cons a l ih=>
  simp only [List.map_cons,List.sum_cons]
  rcases List.mem_cons.1 hx with rfl|hx
  ·omega
  ·have:=ih hx;omega
theorem sum_flat {α β:Type} {m:α→Nat} (f:α→List β) (hm: ∀ x,(f x).length≤m x) (l:List α):(l.flatMap f).length≤(l.map m).sum:=by
 induction l with
 |nil=>exact Nat.le_refl _
 |cons a l ih=>have:=hm a;simp only [List.flatMap_cons,List.length_append,List.map_cons,List.sum_cons];omega
theorem f1_le (x:S56):x.f1.length≤m56 x:=by have:=sum_len (m:=m57) (fun _=>by simp only [m57];omega) x.f1;simp only [m56];omega
theorem f2_le (x:S56):x.f2.length≤m56 x:=by have:=sum_len (m:=m253) (fun _=>by simp only [m253];omega) x.f2;simp only [m56];omega
theorem keys_le (x:S253):x.f2.length≤m253 x:=by have:=sum_len (m:=m335) (fun _=>by simp only [m335];omega) x.f2;simp only [m253];omega
theorem Sml.of {xs:List S56} {steps:List S66} {lo up:ByteArray} (h:(xs.map m56).sum+(steps.map m66).sum+lo.size+up.size≤1048576)
  (hx: ∀ x∈xs, ∀ y∈x.f1,IntKind.u64.min≤y.f1∧y.f1≤IntKind.u64.max) (hs: ∀ s∈steps,IntKind.u8.min≤s.f0):Sml xs steps lo up:=by
 have hmem: ∀ x∈xs,m56 x≤1048576:=fun x hx=>by have:=sum_mem m56 hx;omega
 refine ⟨?_,?_,fun s hs=>by have:=sum_mem m66 hs;simp only [m66] at this;omega,⟨by omega,by omega⟩,?_,?_,?_,?_,?_,by omega,by omega,fun s hs'=>?_,fun x hx' p hp=>?_⟩
 ·have:=sum_len (m:=m56) (fun _=>by simp only [m56];omega) xs
  omega
 ·intro x hx
  have h0:=hmem x hx
  have h1:=f1_le x
  have h2:=f2_le x
  simp only [m56] at h0
  refine ⟨⟨by simp only [m56] at h1;omega,fun y hy=>?_⟩,by simp only [m56] at h2;omega,fun y hy=>?_⟩
  ·have h3:=sum_mem m57 hy
   simp only [m57] at h3 h0
   omega
  ·have h3:=sum_mem m253 hy
   have h4:=keys_le y
   simp only [m253] at h3 h4 h0
   refine ⟨by omega,by omega,by omega,fun z hz=>?_⟩
   have h5:=sum_mem m335 hz
   simp only [m335] at h5 h3
   omega
 ·have:=sum_flat (m:=m56) (·.f1) f1_le xs
  omega
 ·have:=sum_flat (m:=m56) (·.f2) f2_le xs
  omega
 ·rw [List.flatMap_assoc]
  have:=sum_flat (m:=m56) (fun x:S56=>x.f2.flatMap (·.f2)) (fun x=>by
   have:=sum_flat (m:=m253) (·.f2) keys_le x.f2
   simp only [m56]
   omega) xs
  omega
 ·intro x hx
  have h0:=hmem x hx
  simp only [m56] at h0
  refine ⟨fun p hp=>?_,fun p hp=>?_⟩
  ·have h1:=sum_mem m57 hp
   simp only [m57] at h1 h0
   omega
  ·have h1:=sum_mem m253 hp
   have h2:=keys_le p
   simp only [m253] at h1 h0 h2
   omega
 ·have:=sum_len (m:=m66) (fun _=>by simp only [m66];omega) steps
  omega
 ·exact hs s hs'
 ·obtain ⟨h1,h2⟩:=hx x hx' p hp
  have h2':p.f1≤18446744073709551615:=h2
  exact ⟨h1,by omega⟩
end Go.Proofs.YtghppnklhbbffaaGreatDoor.X
