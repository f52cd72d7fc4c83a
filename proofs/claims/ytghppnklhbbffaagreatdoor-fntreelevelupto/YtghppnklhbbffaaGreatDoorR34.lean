/- Part 34 of the proof that laws.FnTreeLevel answers true, for arguments of small bulk. -/
import Derived.Test.YtghppnklhbbffaaGreatDoorR05
import Derived.Test.YtghppnklhbbffaaGreatDoorR28
import Derived.Test.YtghppnklhbbffaaGreatDoorR26
import Derived.Test.YtghppnklhbbffaaGreatDoorR33
import Derived.Test.YtghppnklhbbffaaGreatDoorR04
set_option linter.all false
set_option maxHeartbeats 4000000
set_option maxRecDepth 100000
namespace Go.Proofs.YtghppnklhbbffaaGreatDoor.X
open Go Go.RowKit Go.MapKept Go.Proofs.YtghppnklhbbffaaGreatDoor.TL Go.Proofs.YtghppnklhbbffaaGreatDoor.PFnTreeLevel Go.Proofs.YtghppnklhbbffaaGreatDoorW.PrintWords Go.Proofs.YtghppnklhbbffaaGreatDoorW.PrintMore
noncomputable def S34 (L:SV) (A:Addr) (n c:Nat):ST:=runS Tryz.prog ⟨[],0,[],[],0⟩ 200 (startS Tryz.f34 [L,.sl A n c] [])
def T34 (L:SV) (A:Addr) (n c:Nat) (ov:V1) (at_:Int) (pl:Bool) (j:Int) (ys:Nat→Value):List SV:=mkT 116 [(0,L),(5,o1 ov),(6,.si .i64 at_),(7,.sb pl),(12,.sl A n c),(13,.si .i64 n),(14,.si .i64 j)] ys
def J34 [Bd] (l:List S57) (steps:List S66) (L:SV) (A:Addr) (n c:Nat) (w0:World) (m:Nat) (bs:List Nat) (T:List SV) (H:List SB) (w:World):Prop:=
 ∃ (j:Nat) (ys:Nat→Value) (ov:V1) (at_:Int) (pl:Bool),j≤n∧m+j=n∧bs=[]∧T=T34 L A n c ov at_ pl j ys∧H=[]∧(l≠[]→posA l (steps.take j)=(at_,pl))∧w.ownsRow Bd.B 145 4 ov.1 j ((walkA l (0,false) (steps.take j)).flatMap cells145)∧Kept [145] w0 w
abbrev H34 (op:Int) (key:ByteArray):List SB:=[⟨66,[.si .u8 op,sv key]⟩]
abbrev z4:List SV:=[.str ⟨#[]⟩,.it .u64 0,.str ⟨#[]⟩,.bl false]
theorem w34z [Bd] {Q:Exit→Act→World→Prop} {l:List S57} {steps:List S66} {L:SV} (A:Addr) (c:Nat) {n:Nat} {w0:World} {m j:Nat} {ov:V1} {xb:Nat} {w:World} {S:ST} (x x1 x2:Nat) (lz:List SV) (op:Int) (key:ByteArray) (at_:Int) (pl:Bool) (hs:Wk [xb] S w) (hjn:m+j=n) (hj:j < steps.length) (hln:steps.length=n) (hn:n < 2^30) (hown:w.ownsRow Bd.B 145 4 ov.1 j ((walkA l (0,false) (steps.take j)).flatMap cells145)) (hK:Kept [145] w0 w)
  (hL:L.lt 0=true) (hz:SV.denL [xb] lz=cells145 (outA l (stepA l (posA l (steps.take j)) steps[j]))) (ha:l≠[]→nextA (posA l (steps.take j)) (stepA l (posA l (steps.take j)) steps[j])=(at_,pl))
  (h:curOp S=some (.buildSlice 62 1 #[(0,.tmp x)]):=by kernel_rfl) (hx:cellsV (evS S.T (.tmp x))=some lz:=by kernel_rfl) (hl:lz.length=4:=by rfl) (hH:S.H=H34 op key:=by kernel_rfl) (hlt:SV.ltL 1 lz=true:=by kernel_rfl) (hone:(SV.denL [xb] lz).all (·.oneCell')=true:=by kernel_rfl)
  (h2: ∀ nb,curOp (afterC S (.sl ⟨nb,0,none⟩ 1 1) (H34 op key++[⟨145,lz⟩]))=some (.call (appC 62 (.tmp x1) (.tmp x2))):=by intro _;kernel_rfl) (h3: ∀ nb,(evS (afterC S (.sl ⟨nb,0,none⟩ 1 1) (H34 op key++[⟨145,lz⟩])).T (.tmp x1)).den ([xb]++[nb])=ov.1:=by intro _;kernel_rfl) (h4: ∀ nb,evS (afterC S (.sl ⟨nb,0,none⟩ 1 1) (H34 op key++[⟨145,lz⟩])).T (.tmp x2)=.sl ⟨nb,0,none⟩ 1 1:=by intro _;kernel_rfl)
  (h5: ∀ nb,(afterC S (.sl ⟨nb,0,none⟩ 1 1) (H34 op key++[⟨145,lz⟩])).H=H34 op key++[⟨145,lz⟩]:=by intro _;kernel_rfl)
  (h6: ∀ nb v,(runS Tryz.prog ⟨[],2,[],[],0⟩ 200 (afterC (afterC S (.sl ⟨nb,0,none⟩ 1 1) (H34 op key++[⟨145,lz⟩])) (o1 v) (H34 op key++[⟨145,lz⟩]))).ob=[]:=by intro _ _;kernel_rfl) (h7: ∀ nb v,(runS Tryz.prog ⟨[],2,[],[],0⟩ 200 (afterC (afterC S (.sl ⟨nb,0,none⟩ 1 1) (H34 op key++[⟨145,lz⟩])) (o1 v) (H34 op key++[⟨145,lz⟩]))).H.length=2:=by intro _ _;kernel_rfl)
  (h8: ∀ nb v,finQ (runS Tryz.prog ⟨[],2,[],[],0⟩ 200 (afterC (afterC S (.sl ⟨nb,0,none⟩ 1 1) (H34 op key++[⟨145,lz⟩])) (o1 v) (H34 op key++[⟨145,lz⟩])))=some (Hand (J34 l steps L A n c w0) m):=by intro _ _;kernel_rfl)
  (h9: ∀ nb v,SV.denL [xb,nb] (runS Tryz.prog ⟨[],2,[],[],0⟩ 200 (afterC (afterC S (.sl ⟨nb,0,none⟩ 1 1) (H34 op key++[⟨145,lz⟩])) (o1 v) (H34 op key++[⟨145,lz⟩]))).T=SV.denL [xb,nb] (T34 L A n c v at_ pl (IntKind.i64.wrap ((j:Int)+1)) fun i=>((runS Tryz.prog ⟨[],2,[],[],0⟩ 200 (afterC (afterC S (.sl ⟨nb,0,none⟩ 1 1) (H34 op key++[⟨145,lz⟩])) (o1 v) (H34 op key++[⟨145,lz⟩]))).T.getD i .un).den [xb,nb]):=by intro _ _;kernel_rfl):
  kx Tryz.prog Q S.K .normal (actS [xb] S.T) w:=by
 refine zapp 62 145 4 48 (.agg #[.string ⟨#[]⟩,.int .u64 0,.string ⟨#[]⟩,.bool false]) x x1 x2 lz ov j _ (H34 op key) hs hown (by omega) ((hs.satE _ hH).ne_own hown (by kernel_rfl)) (fun nb v' w2 hown2 hK2 _ hW2=>?_) h hx (by kernel_rfl) (by kernel_rfl) rfl hl (by decide) (by decide) (by decide) hH (by kernel_rfl) hlt hone h2 h3 h4 h5
 refine gr0 (bs:=[xb,nb]) 200 ⟨[],2,[],[],0⟩ hW2 (fun w3 hK3 hW3=>?_) [] trivial (by kernel_rfl) rfl (h6 nb v') (h7 nb v')
 refine go_fin (Hand (J34 l steps L A n c w0) m) (h8 nb v') (fun ys=>T34 L A n c v' at_ pl (IntKind.i64.wrap ((j:Int)+1)) ys) (h9 nb v') (fun ys=>?_)
 rw [wrap_succ j (by omega)]
 refine ⟨m - 1,by omega,[],T34 L A n c v' at_ pl ((j+1:Nat):Int) ys,[],actS_cut [] [xb,nb] _ ?_,sat0 w3 hW3.sz,j+1,ys,v',at_,pl,by omega,by omega,rfl,rfl,rfl,fun hne=>?_,?_,hK.trans (hK2.tr hK3 (ts:=[145]))⟩
 ·have e:T34 L A n c v' at_ pl ((j+1:Nat):Int) ys=L::(T34 .np A n c v' at_ pl ((j+1:Nat):Int) ys).tail:=by kernel_rfl
  rw [e]
  show (L.lt 0&&SV.ltL 0 (T34 .np A n c v' at_ pl ((j+1:Nat):Int) ys).tail)=true
  rw [hL]
  kernel_rfl
 ·rw [posA_succ l steps j hj]
  exact ha hne
 ·rw [walkA_succ l steps j hj, ←hz]
  exact own_kept hown2 hK3 (by simp)
noncomputable def P34 (q:Act→World→Prop):ST:=afterC (runS Tryz.prog ⟨[],0,[],[(15,true)],0⟩ 200 (bodyS (S34 (.sl ⟨0,0,none⟩ 0 0) ⟨0,0,none⟩ 0 0) q (T34 (.sl ⟨0,0,none⟩ 0 0) ⟨0,0,none⟩ 0 0 nsV 0 false 0 (fun _=>.nilIface)) [])) (.agg [.si .u8 0,sv ⟨#[]⟩]) []
noncomputable def K31 (q:Act→World→Prop):List KI:=(runS Tryz.prog ⟨[],0,[],[(21,false),(23,true)],0⟩ 200 (P34 q)).K
noncomputable def R31 (q:Act→World→Prop):List KI:=(runS Tryz.prog ⟨[],0,[],[(21,true)],0⟩ 44 (P34 q)).K
noncomputable def K44 (q:Act→World→Prop):List KI:=(runS Tryz.prog ⟨[],0,[],[(21,false),(23,false),(28,true)],0⟩ 200 (P34 q)).K
noncomputable def K45 (q:Act→World→Prop):List KI:=(runS Tryz.prog ⟨[],0,[],[(21,false),(23,false),(28,false),(47,true)],0⟩ 200 (P34 q)).K
def G34 (L:SV) (A:Addr) (n c:Nat) (ov:V1) (at_:SV) (pl:SV) (j:Int):List (Nat×SV):=[(0,L),(5,o1 ov),(6,at_),(7,pl),(12,.sl A n c),(13,.si .i64 n),(14,.si .i64 j)]
structure E34 [Bd] (l:List S57) (steps:List S66) (L:SV) (A0:Option Addr) (A:Addr) (n c c0:Nat) (w0:World) (m j:Nat) (ov:V1) (at_:Int) (pl:Bool) (w:World):Prop where
 hjn:m+j=n
 hj:j < steps.length
 hln:steps.length=n
 hn:n < 2^30
 hl:l.length < 2^30
 sz: ∀ x∈l,x.f0.size≤140737488351232
 srt:Srt l
 hL:(∃ a,A0=some a∧L=.sl a l.length c0)∨(L=.ns∧l=[])
 h57: ∀ w',Kept [145] w0 w'→Kd.C k57 w' A0 l.length l
 ha:l≠[]→posA l (steps.take j)=(at_,pl)
 own:w.ownsRow Bd.B 145 4 ov.1 j ((walkA l (0,false) (steps.take j)).flatMap cells145)
 hK:Kept [145] w0 w
section
variable {Q:Exit→Act→World→Prop} {l:List S57} {steps:List S66} {L:SV} {A0:Option Addr} {A:Addr} {n c c0:Nat} {w0:World} {m j:Nat} {ov:V1} {at_:Int} {pl:Bool} {xb:Nat} {w w1:World} {key:ByteArray} {op:Int}
theorem E34.ext [Bd] (h:E34 l steps L A0 A n c c0 w0 m j ov at_ pl w) (hk:Ext w w1):E34 l steps L A0 A n c c0 w0 m j ov at_ pl w1:=
 { h with own:=own_kept h.own hk (by simp),hK:=h.hK.trans (hk.mono (by simp)) }
theorem E34.lt0 [Bd] (h:E34 l steps L A0 A n c c0 w0 m j ov at_ pl w):L.lt 0=true:=by
 rcases h.hL with ⟨a,_,rfl⟩|⟨rfl,_⟩<;>rfl
theorem w34n [Bd] {S:ST} (h:E34 l steps L A0 A n c c0 w0 m j ov at_ pl w) (u:Int) (hs:Wk [xb] S w) (ho:l≠[]→stepA l (posA l (steps.take j)) (steps[j]'h.hj)=some u∧ ¬ (0≤u∧u < l.length)):Wk [xb] S w∧(SV.denL [xb] z4=cells145 (outA l (stepA l (posA l (steps.take j)) (steps[j]'h.hj))))∧(l≠[]→nextA (posA l (steps.take j)) (stepA l (posA l (steps.take j)) (steps[j]'h.hj))=(u,true)):=by
 refine ⟨hs,?_,fun hne=>by rw [(ho hne).1];rfl⟩
 by_cases hne:l=[]
 ·subst hne
  have: ∀ o,outA [] o=z145:=by
   intro o
   cases o with
   |none=>rfl
   |some t=>simp only [outA];rw [if_neg (by intro h;have:t < 0:=h.2;omega)]
  rw [this];rfl
 ·rw [(ho hne).1]
  simp only [outA]
  rw [if_neg (ho hne).2];rfl
theorem w34d [Bd] (h:E34 l steps L A0 A n c c0 w0 m j ov at_ pl w) (u:Int) (ys:Nat→Value) (hW:Wk [xb] ⟨K31 (Hand (J34 l steps L A n c w0) m),mkT 116 ((96,.sb (decide (u≥0)))::G34 L A n c ov (.si .i64 u) (.bl true) j) ys,H34 op key,[]⟩ w) (ho:l≠[]→stepA l (posA l (steps.take j)) (steps[j]'h.hj)=some u):
  kx Tryz.prog Q (K31 (Hand (J34 l steps L A n c w0) m)) .normal (actS [xb] (mkT 116 ((96,.sb (decide (u≥0)))::G34 L A n c ov (.si .i64 u) (.bl true) j) ys)) w:=by
 by_cases h0:0≤u
 ·refine go_reT (s:=⟨K31 (Hand (J34 l steps L A n c w0) m),mkT 116 ((96,.sb (decide (u≥0)))::G34 L A n c ov (.si .i64 u) (.bl true) j) ys,H34 op key,[]⟩) (mkT 116 ((96,.bl true)::G34 L A n c ov (.si .i64 u) (.bl true) j) ys) (by rw [decide_eq_true (show u≥0 from h0)];kernel_rfl) hW (fun hW=>?_)
  by_cases h1:u < l.length
  ·have hne:l≠[]:=by rintro rfl;have:u < 0:=h1;omega
   obtain ⟨a,hA,hLe⟩:=h.hL.resolve_right fun h=>hne h.2
   have hL0:=h.lt0
   subst hLe hA
   refine gr0 (bs:=[xb]) 200 ⟨[],1,[],[(101,true)],0⟩ hW (fun w2 hK2 hW2=>?_) [(decide (u < l.length),true),(decide (0≤u),true),(decide (u < l.length),true)] ⟨by simpa using h1,by simpa using h0,by simpa using h1,trivial⟩
   have h2:=h.ext hK2
   obtain ⟨ad,cs,e1,_,hK,hcell⟩:=ReadsRow.get_ (h.h57 w2 h2.hK) z57 u h0 (by omega)
   cases e1
   have hy:rd_T57 l u=l.getD u.toNat z57:=rfl
   generalize l.getD u.toNat z57=y at hK hy
   obtain rfl:=k57_open hK
   refine go_loadA 57 (.tmp 105) (a.add (u.toNat*3)) [sv y.f0,.si .u64 y.f1,sv y.f2] (H34 op key) (by kernel_rfl) (by kernel_rfl) (by kernel_rfl) (by kernel_rfl) hW2 (by kernel_rfl) (fun i y hy=>by rw [Addr.add_add];exact hcell i _ (denL_getS (bs:=[xb]) hy)) (fun hW3=>?_)
   refine gr0 (bs:=[xb]) 200 ⟨[],1,[],[],0⟩ hW3 fun w4 hK4 hW4=>?_
   have h4:=h2.ext hK4
   refine w34z A c 107 102 108 [sv y.f0,.si .u64 y.f1,sv y.f2,.bl true] op key u true hW4 h.hjn h.hj h.hln h.hn h4.own h4.hK hL0 ?_ (fun _=>by rw [ho hne];rfl)
   rw [ho hne]
   simp only [outA]
   rw [if_pos ⟨h0,h1⟩,hy];rfl
  ·have ho':l≠[]→stepA l (posA l (steps.take j)) (steps[j]'h.hj)=some u∧ ¬ (0≤u∧u < l.length):=fun hne=>⟨ho hne,fun h=>h1 h.2⟩
   let q:Int:=l.length
   have h1: ¬ u < q:=h1
   rcases h.hL with ⟨a,hA,rfl⟩|⟨rfl,rfl⟩
   all_goals
    refine gr0 (bs:=[xb]) 200 ⟨[],1,[],[(101,false)],0⟩ hW (fun w2 hK2 hW2=>?_) [(decide (u < q),false)] ⟨by simpa using h1,trivial⟩
    have h2:=h.ext hK2
    obtain ⟨hW2,e1,e2⟩:=w34n h2 u hW2 ho'
    exact w34z A c 111 110 112 z4 op key u true hW2 h.hjn h.hj h.hln h.hn h2.own h2.hK h.lt0 e1 e2
 ·refine go_reT (s:=⟨K31 (Hand (J34 l steps L A n c w0) m),mkT 116 ((96,.sb (decide (u≥0)))::G34 L A n c ov (.si .i64 u) (.bl true) j) ys,H34 op key,[]⟩) (mkT 116 ((96,.bl false)::G34 L A n c ov (.si .i64 u) (.bl true) j) ys) (by rw [decide_eq_false (show ¬ u≥0 from h0)];kernel_rfl) hW (fun hW=>?_)
  rcases h.hL with ⟨a,hA,rfl⟩|⟨rfl,rfl⟩
  all_goals
   refine gr0 (bs:=[xb]) 200 ⟨[],1,[],[],0⟩ hW (fun w2 hK2 hW2=>?_)
   have h2:=h.ext hK2
   obtain ⟨hW2,e1,e2⟩:=w34n h2 u hW2 (fun hne=>⟨ho hne,fun h=>h0 h.1⟩)
   exact w34z A c 111 110 112 z4 op key u true hW2 h.hjn h.hj h.hln h.hn h2.own h2.hK h.lt0 e1 e2
def T44 (L:SV) (A:Addr) (n c:Nat) (ov:V1) (at_:Int) (pl:Bool) (j i:Int) (ys:Nat→Value):List SV:=mkT 116 ((9,.p 0 0)::(10,.si .i64 i)::(11,.bl true)::G34 L A n c ov (.si .i64 at_) (.sb pl) j) ys
def J44 [Bd] (t:Nat) (L:SV) (A:Addr) (n c:Nat) (ov:V1) (at_:Int) (pl:Bool) (j:Int) (xb:Nat) (op:Int) (key:ByteArray) (w0:World) (m:Nat) (bs:List Nat) (T:List SV) (H:List SB) (w:World):Prop:=
 ∃ (i:Nat) (ys:Nat→Value),i≤t∧m+i=t∧bs=[xb]∧T=T44 L A n c ov at_ pl j i ys∧H=H34 op key∧Ext w0 w
def J45 [Bd] (t N:Nat) (L:SV) (A:Addr) (n c:Nat) (ov:V1) (at_:Int) (pl:Bool) (j:Int) (xb:Nat) (op:Int) (key:ByteArray) (w0:World) (m:Nat) (bs:List Nat) (T:List SV) (H:List SB) (w:World):Prop:=
 ∃ (i:Nat) (ys:Nat→Value),t≤i∧i≤N∧m+t=i∧bs=[xb]∧T=T44 L A n c ov at_ pl j ((i:Int) - 1) ys∧H=H34 op key∧Ext w0 w
theorem ld57 [Bd] {a:Addr} {v:World} {A0:Option Addr} (hC:Kd.C k57 v A0 l.length l) (hA:A0=some a) (i:Nat) (hi:i < l.length):v.cell? (a.add (i*3))=some (.string l[i].f0):=by
 subst hA
 obtain ⟨ad,cs,e1,_,hK,hcell⟩:=ReadsRow.get_ hC z57 (i:Int) (by omega) (by omega)
 cases e1
 have e:l.getD (i:Int).toNat z57=l[i]:=by simp [List.getD_eq_getElem?_getD,hi]
 rw [e] at hK
 obtain rfl:=k57_open hK
 exact hcell 0 _ rfl
theorem wrap_pred [Bd] (i:Nat) (h:i < 2^62):IntKind.i64.wrap ((i:Int) - 1)=(i:Int) - 1:=by
 unfold IntKind.wrap;simp [IntKind.bits,IntKind.signed];omega
theorem w34_4 [Bd] {a:Addr} (h:E34 l steps (.sl a l.length c0) (some a) A n c c0 w0 m j ov at_ pl w) (ys:Nat→Value) (hW:Wk [xb] ⟨K44 (Hand (J34 l steps (.sl a l.length c0) A n c w0) m),T44 (.sl a l.length c0) A n c ov at_ pl j 0 ys,H34 op key,[]⟩ w) (ho:stepA l (posA l (steps.take j)) (steps[j]'h.hj)=some (lSeek (l.map E57) (bs key):Nat)):
  kx Tryz.prog Q (K44 (Hand (J34 l steps (.sl a l.length c0) A n c w0) m)) .normal (actS [xb] (T44 (.sl a l.length c0) A n c ov at_ pl j 0 ys)) w:=by
 have hle:=lSeek_le (l.map E57) (bs key)
 rw [List.length_map] at hle
 have hl:=h.hl
 have hsk:=h.srt.seek key
 generalize lSeek (l.map E57) (bs key)=t at *
 refine go_loop (s:=⟨K44 (Hand (J34 l steps (.sl a l.length c0) A n c w0) m),T44 (.sl a l.length c0) A n c ov at_ pl j 0 ys,H34 op key,[]⟩) (bs:=[xb]) (J44 t (.sl a l.length c0) A n c ov at_ pl j xb op key w) t (by kernel_rfl) hW (fun ys=>T44 (.sl a l.length c0) A n c ov at_ pl j 0 ys) (H34 op key) (by kernel_rfl) (by kernel_rfl) (fun ys=>⟨0,ys,by omega,by omega,rfl,rfl,rfl,Kept.refl _ _⟩) ?_ ?_
 ·rintro m bs' T H w' ⟨j,ys,_,_,rfl,_⟩
  exact ⟨[],rfl⟩
 ·rintro k bs' T H w' ⟨i,ys,hi,hki,rfl,rfl,rfl,hX⟩ hW'
  refine gr0 (bs:=[xb]) 200 ⟨[],1,[],[],0⟩ hW' fun w2 hK2 hW2=>?_
  refine gd [] [] hW2 (fun hD=>?_)
  have hX1:Ext w w2.drew:=hX.trans (hK2.drew)
  by_cases hil:i < l.length
  ·refine gr0 (bs:=[xb]) 200 ⟨[],1,[],[(34,true)],0⟩ hD (fun w1 hK1 hW1=>?_) [(decide ((i:Int) < l.length),true),(decide ((0:Int)≤i),true),(decide ((i:Int) < l.length),true)] ⟨by simpa using hil,by simp,by simpa using hil,trivial⟩
   refine go_hload 9 9 (.tmp 38) [] w2.drew (a.add ((i:Int).toNat*3)) (sv l[i].f0) (H34 op key) (by kernel_rfl) (by kernel_rfl) (by kernel_rfl) (by kernel_rfl) hW1 (by kernel_rfl) (fun v hC=>ld57 (h.h57 v (h.hK.trans ((hX1.trans hC).mono (by simp)))) rfl i hil) (fun hW2=>?_)
   refine gr0 (bs:=[xb]) 200 ⟨[],1,[],[],0⟩ hW2 fun w3 hK3 hW3=>?_
   have hs3:=hW3.sq (H34 op key)
   refine gcd 29 [sv l[i].f0,sv key] [] w2.drew hW3 (fun hC=>?_)
   refine (c29 l[i].f0 key (h.sz _ (List.getElem_mem _)) w3).mono ?_
   rintro e w4 ⟨rfl,hE4⟩
   refine ⟨.si .i64 (cmpB l[i].f0 key),[],_,rfl,hs3.kq hE4,hC.trans hE4,fun hW4=>?_⟩
   have hX4:Ext w w4:=hX1.trans (hC.trans hE4)
   by_cases hit:i < t
   ·refine gr0 (bs:=[xb]) 200 ⟨[],1,[],[(44,true)],0⟩ hW4 (fun w5 hK5 hW5=>?_) [(decide (cmpB l[i].f0 key < 0),true)] ⟨by simpa using (hsk i hil).1 hit,trivial⟩
    refine go_fin (Hand (J44 t (.sl a l.length c0) A n c ov at_ pl j xb op key w) k) (by kernel_rfl) (fun ys=>T44 (.sl a l.length c0) A n c ov at_ pl j (IntKind.i64.wrap ((i:Int)+1)) ys) (by kernel_rfl) (fun ys=>?_)
    rw [wrap_succ i (by omega)]
    exact ⟨k - 1,by omega,[xb],T44 (.sl a l.length c0) A n c ov at_ pl j ((i+1:Nat):Int) ys,H34 op key,rfl,hW5.sq (H34 op key),i+1,ys,by omega,by omega,rfl,rfl,rfl,hX4.trans hK5⟩
   ·obtain rfl:i=t:=by omega
    refine gr0 (bs:=[xb]) 200 ⟨[],1,[],[(44,false)],0⟩ hW4 (fun w5 hK5 hW5=>?_) [(decide (cmpB l[i].f0 key < 0),false)] ⟨decide_eq_false (fun h=>absurd ((hsk i hil).2 h) (by omega)),trivial⟩
    exact go_cut (K31 (Hand (J34 l steps (.sl a l.length c0) A n c w0) m)) 116 ((96,.sb (decide ((i:Int)≥0)))::G34 (.sl a l.length c0) A n c ov (.si .i64 i) (.bl true) j) (H34 op key) (by kernel_rfl) (by kernel_rfl) (by kernel_rfl) hW5 (hW5.sq (H34 op key)) fun ys hW6=>w34d (h.ext (hX4.trans hK5)) i ys hW6 fun _=>ho
  ·obtain rfl:i=t:=by omega
   refine gr0 (bs:=[xb]) 200 ⟨[],1,[],[(34,false)],0⟩ hD (fun w5 hK5 hW5=>?_) [(decide ((i:Int) < l.length),false)] ⟨by simpa using hil,trivial⟩
   exact go_cut (K31 (Hand (J34 l steps (.sl a l.length c0) A n c w0) m)) 116 ((96,.sb (decide ((i:Int)≥0)))::G34 (.sl a l.length c0) A n c ov (.si .i64 i) (.bl true) j) (H34 op key) (by kernel_rfl) (by kernel_rfl) (by kernel_rfl) hW5 (hW5.sq (H34 op key)) fun ys hW6=>w34d (h.ext (hX1.trans hK5)) i ys hW6 fun _=>ho
theorem w34_5 [Bd] {a:Addr} (h:E34 l steps (.sl a l.length c0) (some a) A n c c0 w0 m j ov at_ pl w) (ys:Nat→Value) (hW:Wk [xb] ⟨K45 (Hand (J34 l steps (.sl a l.length c0) A n c w0) m),T44 (.sl a l.length c0) A n c ov at_ pl j ((l.length:Int) - 1) ys,H34 op key,[]⟩ w) (ho:stepA l (posA l (steps.take j)) (steps[j]'h.hj)=some (((lSeek (l.map E57) (bs key):Nat):Int) - 1)):
  kx Tryz.prog Q (K45 (Hand (J34 l steps (.sl a l.length c0) A n c w0) m)) .normal (actS [xb] (T44 (.sl a l.length c0) A n c ov at_ pl j ((l.length:Int) - 1) ys)) w:=by
 have hle:=lSeek_le (l.map E57) (bs key)
 rw [List.length_map] at hle
 have hl:=h.hl
 have hsk:=h.srt.seek key
 generalize lSeek (l.map E57) (bs key)=t at *
 refine go_loop (s:=⟨K45 (Hand (J34 l steps (.sl a l.length c0) A n c w0) m),T44 (.sl a l.length c0) A n c ov at_ pl j ((l.length:Int) - 1) ys,H34 op key,[]⟩) (bs:=[xb]) (J45 t l.length (.sl a l.length c0) A n c ov at_ pl j xb op key w) (l.length - t) (by kernel_rfl) hW (fun ys=>T44 (.sl a l.length c0) A n c ov at_ pl j ((l.length:Int) - 1) ys) (H34 op key) (by kernel_rfl) (by kernel_rfl) (fun ys=>⟨l.length,ys,by omega,by omega,by omega,rfl,rfl,rfl,Kept.refl _ _⟩) ?_ ?_
 ·rintro m bs' T H w' ⟨j,ys,_,_,_,rfl,_⟩
  exact ⟨[],rfl⟩
 ·rintro k bs' T H w' ⟨i,ys,hi,hin,hki,rfl,rfl,rfl,hX⟩ hW'
  refine gr0 (bs:=[xb]) 200 ⟨[],1,[],[],0⟩ hW' fun w2 hK2 hW2=>?_
  refine gd [] [] hW2 (fun hD=>?_)
  have hX1:Ext w w2.drew:=hX.trans (hK2.drew)
  have out: ∀ (u:Int) (v:World) (S:ST),Ext w v→i=t→u=(i:Int) - 1→Wk [xb] S v→(S.K=K31 (Hand (J34 l steps (.sl a l.length c0) A n c w0) m))→S.T.length=116→(((96,.sb (decide (u≥0)))::G34 (.sl a l.length c0) A n c ov (.si .i64 u) (.bl true) j).map (fun p=>S.T.getD p.1 .un)=((96,.sb (decide (u≥0)))::G34 (.sl a l.length c0) A n c ov (.si .i64 u) (.bl true) j).map (·.2))→vals [xb] S.H=vals [xb] (H34 op key)→kx Tryz.prog Q S.K .normal (actS [xb] S.T) v:=by
   rintro u v S hv rfl rfl hW5 e1 e2 e3 e4
   exact go_cut _ 116 _ (H34 op key) e1 e2 e3 hW5 (hW5.sq (H34 op key) e4) fun ys hW6=>w34d (h.ext hv) _ ys hW6 fun _=>ho
  rcases i with _|i
  ·refine gr0 (bs:=[xb]) 200 ⟨[],1,[],[(54,false)],0⟩ hD (fun w5 hK5 hW5=>?_) [(decide (((0:Nat):Int) - 1≥0),false)] ⟨rfl,trivial⟩
   exact out (((0:Nat):Int) - 1) w5 _ (hX1.trans hK5) (by omega) (by omega) hW5 (by kernel_rfl) (by kernel_rfl) (by kernel_rfl) (by kernel_rfl)
  ·have hil:i < l.length:=by omega
   have ei:(((i+1:Nat):Int) - 1).toNat=i:=by omega
   refine gr0 (bs:=[xb]) 200 ⟨[],1,[],[(54,true)],0⟩ hD (fun w1 hK1 hW1=>?_) [(decide (((i+1:Nat):Int) - 1≥0),true),(decide ((0:Int)≤((i+1:Nat):Int) - 1),true),(decide (((i+1:Nat):Int) - 1 < l.length),true)] ⟨decide_eq_true (by omega),decide_eq_true (by omega),decide_eq_true (by omega),trivial⟩
   refine go_hload 7 9 (.tmp 58) [] w2.drew (a.add ((((i+1:Nat):Int) - 1).toNat*3)) (sv l[i].f0) (H34 op key) (by kernel_rfl) (by kernel_rfl) (by kernel_rfl) (by kernel_rfl) hW1 (by kernel_rfl) (fun v hC=>by rw [ei];exact ld57 (h.h57 v (h.hK.trans ((hX1.trans hC).mono (by simp)))) rfl i hil) (fun hW2=>?_)
   refine gr0 (bs:=[xb]) 200 ⟨[],1,[],[],0⟩ hW2 fun w3 hK3 hW3=>?_
   have hs3:=hW3.sq (H34 op key)
   refine gcd 29 [sv l[i].f0,sv key] [] w2.drew hW3 (fun hC=>?_)
   refine (c29 l[i].f0 key (h.sz _ (List.getElem_mem _)) w3).mono ?_
   rintro e w4 ⟨rfl,hE4⟩
   refine ⟨.si .i64 (cmpB l[i].f0 key),[],_,rfl,hs3.kq hE4,hC.trans hE4,fun hW4=>?_⟩
   have hX4:Ext w w4:=hX1.trans (hC.trans hE4)
   by_cases hit:t≤i
   ·refine gr0 (bs:=[xb]) 200 ⟨[],1,[],[(64,true)],0⟩ hW4 (fun w5 hK5 hW5=>?_) [(decide (cmpB l[i].f0 key≥0),true)] ⟨decide_eq_true (Int.not_lt.1 fun h=>absurd ((hsk i hil).2 h) (by omega)),trivial⟩
    refine go_fin (Hand (J45 t l.length (.sl a l.length c0) A n c ov at_ pl j xb op key w) k) (by kernel_rfl) (fun ys=>T44 (.sl a l.length c0) A n c ov at_ pl j (IntKind.i64.wrap ((((i+1:Nat):Int) - 1) - 1)) ys) (by kernel_rfl) (fun ys=>?_)
    have ew:IntKind.i64.wrap ((((i+1:Nat):Int) - 1) - 1)=(i:Int) - 1:=by rw [show ((i+1:Nat):Int) - 1=(i:Int) by omega];exact wrap_pred i (by omega)
    rw [ew]
    exact ⟨k - 1,by omega,[xb],T44 (.sl a l.length c0) A n c ov at_ pl j ((i:Int) - 1) ys,H34 op key,rfl,hW5.sq (H34 op key),i,ys,by omega,by omega,by omega,rfl,rfl,rfl,hX4.trans hK5⟩
   ·refine gr0 (bs:=[xb]) 200 ⟨[],1,[],[(64,false)],0⟩ hW4 (fun w5 hK5 hW5=>?_) [(decide (cmpB l[i].f0 key≥0),false)] ⟨decide_eq_false (fun h=>absurd ((hsk i hil).1 (by omega)) (by omega)),trivial⟩
    exact out (((i+1:Nat):Int) - 1) w5 _ (hX4.trans hK5) (by omega) (by omega) hW5 (by kernel_rfl) (by kernel_rfl) (by kernel_rfl) (by kernel_rfl)
theorem beqT {a b:Int} (h:a=b):(a==b)=true:=by simp [h]
theorem beqF {a b:Int} (h: ¬ a=b):(a==b)=false:=by simp [h]
theorem w34x [Bd] {S:ST} (h:E34 l steps L A0 A n c c0 w0 m j ov at_ pl w) (hs:Wk [xb] S w) (ho:l≠[]→stepA l (posA l (steps.take j)) (steps[j]'h.hj)=none):SV.denL [xb] z4=cells145 (outA l (stepA l (posA l (steps.take j)) (steps[j]'h.hj)))∧(l≠[]→nextA (posA l (steps.take j)) (stepA l (posA l (steps.take j)) (steps[j]'h.hj))=(at_,pl)):=by
 refine ⟨?_,fun hne=>by rw [ho hne];exact h.ha hne⟩
 by_cases hne:l=[]
 ·subst hne
  generalize stepA [] (posA [] (List.take j steps)) (steps[j]'h.hj)=o
  cases o with
  |none=>rfl
  |some t=>simp only [outA];rw [if_neg (by intro h;have:t < 0:=h.2;omega)];rfl
 ·rw [ho hne];rfl
theorem w34e [Bd] (h:E34 l steps L A0 A n c c0 w0 m j ov at_ pl w) (u:Int) (ys:Nat→Value) (hW:Wk [xb] ⟨R31 (Hand (J34 l steps L A n c w0) m),mkT 116 (G34 L A n c ov (.si .i64 u) (.bl true) j) ys,H34 op key,[]⟩ w) (ho:l≠[]→stepA l (posA l (steps.take j)) (steps[j]'h.hj)=some u):
  kx Tryz.prog Q (R31 (Hand (J34 l steps L A n c w0) m)) .normal (actS [xb] (mkT 116 (G34 L A n c ov (.si .i64 u) (.bl true) j) ys)) w:=by
 refine gr0 (s:=⟨R31 (Hand (J34 l steps L A n c w0) m),mkT 116 (G34 L A n c ov (.si .i64 u) (.bl true) j) ys,H34 op key,[]⟩) (bs:=[xb]) 200 ⟨[],1,[],[],0⟩ hW (fun w2 hK2 hW2=>?_)
 exact go_cut (K31 (Hand (J34 l steps L A n c w0) m)) 116 ((96,.sb (decide (u≥0)))::G34 L A n c ov (.si .i64 u) (.bl true) j) (H34 op key) (by kernel_rfl) (by kernel_rfl) (by kernel_rfl) hW2 (hW2.sq (H34 op key)) fun ys hW=>w34d (h.ext hK2) u ys hW ho
theorem w34 [Bd] (h:E34 l steps L A0 A n c c0 w0 m j ov at_ pl w) (ys:Nat→Value) (hst:steps[j]'h.hj=⟨op,key⟩) (S:ST) (hS:S=runS Tryz.prog ⟨[],0,[],[(15,true)],0⟩ 200 (bodyS (S34 L A n c) (Hand (J34 l steps L A n c w0) m) (T34 L A n c ov at_ pl j ys) [])) (hW:Wk [] (afterC S (.agg [.si .u8 op,sv key]) []) w):
  kx Tryz.prog Q (afterC S (.agg [.si .u8 op,sv key]) []).K .normal (actS [] (afterC S (.agg [.si .u8 op,sv key]) []).T) w:=by
 subst hS
 have hbd:=posA_bd l (steps.take j)
 have ha:=h.ha
 have hl:=h.hl
 let L':=L
 let l':=l
 let q:Int:=l.length
 by_cases o0:op=0
 ·have ho:l≠[]→stepA l (posA l (steps.take j)) (steps[j]'h.hj)=some 0:=fun hne=>by rw [hst];simp [stepA,o0]
  rcases h.hL with ⟨a,rfl,rfl⟩|⟨rfl,rfl⟩
  all_goals
   refine gr1 (bs:=[]) 44 ⟨[],0,[],[(21,true)],0⟩ hW (fun xb w1 hb hK1 hW1=>?_) [(op==0,true)] ⟨beqT o0,trivial⟩
   exact go_cutD (R31 (Hand (J34 l' steps L' A n c w0) m)) 116 (G34 L' A n c ov (.si .i64 0) (.bl true) j) (H34 op key) (by kernel_rfl) (by kernel_rfl) (by kernel_rfl) hW1 (hW1.sq (H34 op key)) fun ys hW=>w34e (h.ext hK1) 0 ys hW ho
 by_cases o1:op=1
 ·have ho:l≠[]→stepA l (posA l (steps.take j)) (steps[j]'h.hj)=some (IntKind.i64.wrap ((l.length:Int) - 1)):=fun hne=>by rw [hst,wrap_pred _ (by omega)];simp [stepA,o1]
  rcases h.hL with ⟨a,rfl,rfl⟩|⟨rfl,rfl⟩
  all_goals
   refine gr1 (bs:=[]) 53 ⟨[],0,[],[(21,false),(23,true)],0⟩ hW (fun xb w1 hb hK1 hW1=>?_) [(op==0,false),(op==1,true)] ⟨beqF o0,beqT o1,trivial⟩
   refine go_cutD (R31 (Hand (J34 l' steps L' A n c w0) m)) 116 (G34 L' A n c ov (.si .i64 (IntKind.i64.wrap (q - 1))) (.bl true) j) (H34 op key) (by kernel_rfl) (by kernel_rfl) (by kernel_rfl) hW1 (hW1.sq (H34 op key)) fun ys hW=>?_
   exact w34e (h.ext hK1) _ ys hW ho
 by_cases o4:op=4
 ·have ho:stepA l (posA l (steps.take j)) (steps[j]'h.hj)=some ((lSeek (l.map E57) (bs key):Nat):Int):=by rw [hst];simp [stepA,o4]
  rcases h.hL with ⟨a,rfl,rfl⟩|⟨rfl,rfl⟩
  ·refine gr1 (bs:=[]) 200 ⟨[],0,[],[(21,false),(23,false),(28,true)],0⟩ hW (fun xb w1 hb hK1 hW1=>?_) [(op==0,false),(op==1,false),(op==4,true)] ⟨beqF o0,beqF o1,beqT o4,trivial⟩
   exact go_cutD (K44 (Hand (J34 l steps (.sl a l.length c0) A n c w0) m)) 116 ((9,.p 0 0)::(10,.si .i64 0)::(11,.bl true)::G34 (.sl a l.length c0) A n c ov (.si .i64 at_) (.sb pl) j) (H34 op key) (by kernel_rfl) (by kernel_rfl) (by kernel_rfl) hW1 (hW1.sq (H34 op key)) fun ys hW=>w34_4 (h.ext hK1) ys hW ho
  ·refine gr1 (bs:=[]) 200 ⟨[],0,[],[(21,false),(23,false),(28,true)],1⟩ hW (fun xb w1 hb hK1 hW1=>?_) [(op==0,false),(op==1,false),(op==4,true)] ⟨beqF o0,beqF o1,beqT o4,trivial⟩
   obtain ⟨hW1,e1,e2⟩:=w34n (h.ext hK1) 0 hW1 (fun h=>absurd rfl h)
   exact w34z A c 111 110 112 z4 op key 0 true hW1 h.hjn h.hj h.hln h.hn (h.ext hK1).own (h.ext hK1).hK h.lt0 e1 e2
 by_cases o5:op=5
 ·have ho:stepA l (posA l (steps.take j)) (steps[j]'h.hj)=some (((lSeek (l.map E57) (bs key):Nat):Int) - 1):=by rw [hst];simp [stepA,o5]
  rcases h.hL with ⟨a,rfl,rfl⟩|⟨rfl,rfl⟩
  ·refine gr1 (bs:=[]) 200 ⟨[],0,[],[(21,false),(23,false),(28,false),(47,true)],0⟩ hW (fun xb w1 hb hK1 hW1=>?_) [(op==0,false),(op==1,false),(op==4,false),(op==5,true)] ⟨beqF o0,beqF o1,beqF o4,beqT o5,trivial⟩
   refine go_cutD (K45 (Hand (J34 l steps (.sl a l.length c0) A n c w0) m)) 116 ((9,.p 0 0)::(10,.si .i64 (IntKind.i64.wrap ((l.length:Int) - 1)))::(11,.bl true)::G34 (.sl a l.length c0) A n c ov (.si .i64 at_) (.sb pl) j) (H34 op key) (by kernel_rfl) (by kernel_rfl) (by kernel_rfl) hW1 (hW1.sq (H34 op key)) fun ys hW=>?_
   rw [wrap_pred _ (by omega)] at hW ⊢
   exact w34_5 (h.ext hK1) ys hW ho
  ·refine gr1 (bs:=[]) 200 ⟨[],0,[],[(21,false),(23,false),(28,false),(47,true)],1⟩ hW (fun xb w1 hb hK1 hW1=>?_) [(op==0,false),(op==1,false),(op==4,false),(op==5,true)] ⟨beqF o0,beqF o1,beqF o4,beqT o5,trivial⟩
   obtain ⟨hW1,e1,e2⟩:=w34n (h.ext hK1) (-1) hW1 (fun h=>absurd rfl h)
   exact w34z A c 111 110 112 z4 op key (-1) true hW1 h.hjn h.hj h.hln h.hn (h.ext hK1).own (h.ext hK1).hK h.lt0 e1 e2
 by_cases o2:op=2
 ·have ho:l≠[]→stepA l (posA l (steps.take j)) (steps[j]'h.hj)=if pl=true∧at_ < l.length then some (at_+1) else none:=fun hne=>by rw [hst,ha hne];simp [stepA,o2]
  by_cases hp:pl=true
  ·by_cases hq:at_ < q
   ·have ho:l≠[]→stepA l (posA l (steps.take j)) (steps[j]'h.hj)=some (IntKind.i64.wrap (at_+1)):=fun hne=>by
     have:=ha hne
     rw [ho hne,if_pos ⟨hp,hq⟩,show IntKind.i64.wrap (at_+1)=at_+1 from IntWalk.i64_in _ (by rw [this] at hbd;omega)]
    rcases h.hL with ⟨a,rfl,rfl⟩|⟨rfl,rfl⟩
    all_goals
     refine gr1 (bs:=[]) 200 ⟨[],0,[],[(21,false),(23,false),(28,false),(47,false),(67,true),(70,true),(74,true)],0⟩ hW (fun xb w1 hb hK1 hW1=>?_) [(op==0,false),(op==1,false),(op==4,false),(op==5,false),(op==2,true),(pl,true),(decide (at_ < q),true)] ⟨beqF o0,beqF o1,beqF o4,beqF o5,beqT o2,hp,decide_eq_true hq,trivial⟩
     refine go_cut (K31 (Hand (J34 l' steps L' A n c w0) m)) 116 ((96,.sb (decide (IntKind.i64.wrap (at_+1)≥0)))::G34 L' A n c ov (.si .i64 (IntKind.i64.wrap (at_+1))) (.bl true) j) (H34 op key) (by kernel_rfl) (by kernel_rfl) (by kernel_rfl) hW1 (hW1.sq (H34 op key)) fun ys hW=>?_
     exact w34d (h.ext hK1) _ ys hW ho
   ·rcases h.hL with ⟨a,rfl,rfl⟩|⟨rfl,rfl⟩
    all_goals
     refine gr1 (bs:=[]) 200 ⟨[],0,[],[(21,false),(23,false),(28,false),(47,false),(67,true),(70,true),(74,false)],0⟩ hW (fun xb w1 hb hK1 hW1=>?_) [(op==0,false),(op==1,false),(op==4,false),(op==5,false),(op==2,true),(pl,true),(decide (at_ < q),false)] ⟨beqF o0,beqF o1,beqF o4,beqF o5,beqT o2,hp,decide_eq_false hq,trivial⟩
     obtain ⟨e1,e2⟩:=w34x (h.ext hK1) hW1 (fun hne=>by rw [ho hne,if_neg fun h=>hq h.2])
     exact w34z A c 90 89 91 z4 op key at_ pl hW1 h.hjn h.hj h.hln h.hn (h.ext hK1).own (h.ext hK1).hK h.lt0 e1 e2
  ·have hL:=h.hL
   rcases hL with ⟨a,rfl,rfl⟩|⟨rfl,rfl⟩
   all_goals
    refine gr1 (bs:=[]) 200 ⟨[],0,[],[(21,false),(23,false),(28,false),(47,false),(67,true),(70,false)],0⟩ hW (fun xb w1 hb hK1 hW1=>?_) [(op==0,false),(op==1,false),(op==4,false),(op==5,false),(op==2,true),(pl,false)] ⟨beqF o0,beqF o1,beqF o4,beqF o5,beqT o2,eq_false_of_ne_true hp,trivial⟩
    obtain ⟨e1,e2⟩:=w34x (h.ext hK1) hW1 (fun hne=>by rw [ho hne,if_neg fun h=>hp h.1])
    exact w34z A c 90 89 91 z4 op key at_ pl hW1 h.hjn h.hj h.hln h.hn (h.ext hK1).own (h.ext hK1).hK h.lt0 e1 e2
 by_cases o3:op=3
 ·have ho:l≠[]→stepA l (posA l (steps.take j)) (steps[j]'h.hj)=if pl=true∧0≤at_ then some (at_ - 1) else none:=fun hne=>by rw [hst,ha hne];simp [stepA,o3]
  by_cases hp:pl=true
  ·by_cases hq:at_≥0
   ·have ho:l≠[]→stepA l (posA l (steps.take j)) (steps[j]'h.hj)=some (IntKind.i64.wrap (at_ - 1)):=fun hne=>by
     have:=ha hne
     rw [ho hne,if_pos ⟨hp,hq⟩,show IntKind.i64.wrap (at_ - 1)=at_ - 1 from IntWalk.i64_in _ (by rw [this] at hbd;omega)]
    rcases h.hL with ⟨a,rfl,rfl⟩|⟨rfl,rfl⟩
    all_goals
     refine gr1 (bs:=[]) 200 ⟨[],0,[],[(21,false),(23,false),(28,false),(47,false),(67,false),(78,true),(81,true),(83,true)],0⟩ hW (fun xb w1 hb hK1 hW1=>?_) [(op==0,false),(op==1,false),(op==4,false),(op==5,false),(op==2,false),(op==3,true),(pl,true),(decide (at_≥0),true)] ⟨beqF o0,beqF o1,beqF o4,beqF o5,beqF o2,beqT o3,hp,decide_eq_true hq,trivial⟩
     exact go_cut (K31 (Hand (J34 l' steps L' A n c w0) m)) 116 ((96,.sb (decide ((IntKind.i64.wrap (at_ - 1):Int)≥0)))::G34 L' A n c ov (.si .i64 (IntKind.i64.wrap (at_ - 1))) (.bl true) j) (H34 op key) (by kernel_rfl) (by kernel_rfl) (by kernel_rfl) hW1 (hW1.sq (H34 op key)) fun ys hW=>w34d (h.ext hK1) _ ys hW ho
   ·rcases h.hL with ⟨a,rfl,rfl⟩|⟨rfl,rfl⟩
    all_goals
     refine gr1 (bs:=[]) 200 ⟨[],0,[],[(21,false),(23,false),(28,false),(47,false),(67,false),(78,true),(81,true),(83,false)],0⟩ hW (fun xb w1 hb hK1 hW1=>?_) [(op==0,false),(op==1,false),(op==4,false),(op==5,false),(op==2,false),(op==3,true),(pl,true),(decide (at_≥0),false)] ⟨beqF o0,beqF o1,beqF o4,beqF o5,beqF o2,beqT o3,hp,decide_eq_false hq,trivial⟩
     obtain ⟨e1,e2⟩:=w34x (h.ext hK1) hW1 (fun hne=>by rw [ho hne,if_neg fun h=>hq h.2])
     exact w34z A c 90 89 91 z4 op key at_ pl hW1 h.hjn h.hj h.hln h.hn (h.ext hK1).own (h.ext hK1).hK h.lt0 e1 e2
  ·rcases h.hL with ⟨a,rfl,rfl⟩|⟨rfl,rfl⟩
   all_goals
    refine gr1 (bs:=[]) 200 ⟨[],0,[],[(21,false),(23,false),(28,false),(47,false),(67,false),(78,true),(81,false)],0⟩ hW (fun xb w1 hb hK1 hW1=>?_) [(op==0,false),(op==1,false),(op==4,false),(op==5,false),(op==2,false),(op==3,true),(pl,false)] ⟨beqF o0,beqF o1,beqF o4,beqF o5,beqF o2,beqT o3,eq_false_of_ne_true hp,trivial⟩
    obtain ⟨e1,e2⟩:=w34x (h.ext hK1) hW1 (fun hne=>by rw [ho hne,if_neg fun h=>hp h.1])
    exact w34z A c 90 89 91 z4 op key at_ pl hW1 h.hjn h.hj h.hln h.hn (h.ext hK1).own (h.ext hK1).hK h.lt0 e1 e2
 ·have ho:l≠[]→stepA l (posA l (steps.take j)) (steps[j]'h.hj)=none:=fun hne=>by rw [hst];simp [stepA,o0,o1,o2,o3,o4,o5]
  rcases h.hL with ⟨a,rfl,rfl⟩|⟨rfl,rfl⟩
  all_goals
   refine gr1 (bs:=[]) 200 ⟨[],0,[],[(21,false),(23,false),(28,false),(47,false),(67,false),(78,false)],0⟩ hW (fun xb w1 hb hK1 hW1=>?_) [(op==0,false),(op==1,false),(op==4,false),(op==5,false),(op==2,false),(op==3,false)] ⟨beqF o0,beqF o1,beqF o4,beqF o5,beqF o2,beqF o3,trivial⟩
   obtain ⟨e1,e2⟩:=w34x (h.ext hK1) hW1 ho
   exact w34z A c 90 89 91 z4 op key at_ pl hW1 h.hjn h.hj h.hln h.hn (h.ext hK1).own (h.ext hK1).hK h.lt0 e1 e2
end
theorem c34 [Bd] (A0:Option Addr) (c0:Nat) (l:List S57) (A:Option Addr) (c:Nat) (steps:List S66) (w:World) (hc0:A0=none→c0=0) (hc:A=none→c=0) (hl:l.length < 2^30) (sz: ∀ x∈l,x.f0.size≤140737488351232) (srt:Srt l) (hn:steps.length < 2^30) (h57: ∀ w',Kept [145] w w'→Kd.C k57 w' A0 l.length l) (h66: ∀ w',Kept [145] w w'→Kd.C k66 w' A steps.length steps) (hB0:autoParam (Bd.B≤w.heap.size) sz0._auto_1):
  Calls Tryz.prog 34 #[.slice A0 l.length c0,.slice A steps.length c] w fun e w'=> ∃ v:V1,e=.returned v.1∧w'.ownsRow Bd.B 145 4 v.1 steps.length ((walkA l (0,false) steps).flatMap cells145)∧Kept [145] w w':=by
 obtain ⟨L,hL,hLd⟩: ∃ L:SV,((∃ a,A0=some a∧L=.sl a l.length c0)∨(L=.ns∧l=[]))∧L.den []=.slice A0 l.length c0:=by
  cases A0 with
  |none=>
   have h0:l=[]:=by
    rcases l with _|⟨x,r⟩
    ·rfl
    ·obtain ⟨ad,e,_⟩:=(h57 w (Kept.refl _ _)).2.2 (Nat.succ_pos _);cases e
   subst h0
   exact ⟨.ns,.inr ⟨rfl,rfl⟩,by rw [hc0 rfl];rfl⟩
  |some a=>exact ⟨.sl a l.length c0,.inl ⟨a,rfl,rfl⟩,rfl⟩
 rw [←hLd]
 cases A with
 |none=>
  have h0:steps=[]:=by
   rcases steps with _|⟨x,r⟩
   ·rfl
   ·obtain ⟨ad,e,_⟩:=(h66 w (Kept.refl _ _)).2.2 (Nat.succ_pos _);cases e
  subst h0
  obtain rfl:=hc rfl
  refine gs (bs:=[]) [L,.ns] [] Tryz.func34 (sat0 w) fun hW=>?_
  refine gr0 200 ⟨[],0,[],[],1⟩ hW fun w1 hK1 hW1=>?_
  exact gt .ns hW1.sat ⟨nsV,rfl,World.ownsRow_nil _ _ _ _,hK1.mono (by simp)⟩
 |some a=>
 refine gs (bs:=[]) [L,.sl a steps.length c] [] Tryz.func34 (sat0 w) fun hW=>?_
 refine gr0 200 ⟨[],0,[],[],0⟩ hW (fun w1 hK1 hW1=>?_)
 refine go_loop (s:=S34 L a steps.length c) (bs:=[]) (J34 l steps L a steps.length c w) steps.length (by kernel_rfl) hW1 (fun ys=>T34 L a steps.length c nsV 0 false 0 ys) [] (by kernel_rfl) (by kernel_rfl) (fun ys=>⟨0,ys,nsV,0,false,by omega,by omega,rfl,rfl,rfl,fun _=>rfl,World.ownsRow_nil _ _ _ _,hK1.mono (by simp)⟩) ?_ ?_
 ·rintro m bs' T H w' ⟨j,ys,_,_,_,_,_,rfl,_⟩
  exact ⟨[],rfl⟩
 ·rintro m bs' T H w' ⟨j,ys,ov,at_,pl,hj,hm,rfl,rfl,rfl,ha,hown,hX⟩ hW'
  by_cases hlt:j < steps.length
  ·refine gr0 (bs:=[]) 200 ⟨[],0,[],[(15,true)],0⟩ hW' (fun v1 hG1 hV1=>?_) [(decide ((j:Int) < steps.length),true),(decide ((0:Int)≤j),true),(decide ((j:Int) < steps.length),true)] ⟨by simpa using hlt,by simp,by simpa using hlt,trivial⟩
   have hX1:Kept [145] w v1:=hX.trans (hG1.mono (by simp))
   obtain ⟨ad,cs,e1,_,hK,hcell⟩:=ReadsRow.get_ (h66 v1 hX1) z66 (j:Int) (by omega) (by omega)
   cases e1
   have hx:steps.getD (j:Int).toNat z66=steps[j]:=by simp [List.getD_eq_getElem?_getD,hlt]
   rw [hx] at hK
   generalize hs:steps[j]=x at hK
   obtain ⟨op,key⟩:=x
   obtain rfl:=k66_open hK
   rcases id hL with ⟨a0,rfl,rfl⟩|⟨rfl,rfl⟩
   all_goals
    refine go_loadA 66 (.tmp 16) (a.add ((j:Int).toNat*2)) [.si .u8 op,sv key] [] (by kernel_rfl) (by kernel_rfl) (by kernel_rfl) (by kernel_rfl) hV1 (by kernel_rfl) (fun i y hy=>by rw [Addr.add_add];exact hcell i _ (denL_getS (bs:=[]) hy)) (fun hV2=>?_)
    exact w34 (E34.mk hm hlt rfl hn hl sz srt hL h57 ha (own_kept hown hG1 (by simp)) hX1) ys hs _ rfl hV2
  ·obtain rfl:j=steps.length:=by omega
   refine gr0 (bs:=[]) 200 ⟨[],0,[],[(15,false)],0⟩ hW' (fun v1 hG1 hV1=>?_) [(decide ((steps.length:Int) < steps.length),false)] ⟨by simp,trivial⟩
   refine gt (o1 ov) hV1.sat ⟨ov,rfl,?_,hX.trans (hG1.mono (by simp))⟩
   rw [List.take_length] at hown
   exact own_kept hown hG1 (by simp)
end Go.Proofs.YtghppnklhbbffaaGreatDoor.X
