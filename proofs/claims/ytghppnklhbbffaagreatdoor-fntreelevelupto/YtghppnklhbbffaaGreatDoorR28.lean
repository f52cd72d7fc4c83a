/- Part 28 of the proof that laws.FnTreeLevel answers true, for arguments of small bulk. -/
import Derived.Test.YtghppnklhbbffaaGreatDoorR05
import Derived.Test.YtghppnklhbbffaaGreatDoorR25
import Derived.Test.YtghppnklhbbffaaGreatDoorR09
import Derived.Test.YtghppnklhbbffaaGreatDoorR27
import Derived.Test.YtghppnklhbbffaaGreatDoorR26
set_option linter.all false
set_option maxHeartbeats 4000000
set_option maxRecDepth 100000
namespace Go.Proofs.YtghppnklhbbffaaGreatDoor.X
open Go Go.RowKit Go.MapKept Go.Proofs.YtghppnklhbbffaaGreatDoor.TL Go.Proofs.YtghppnklhbbffaaGreatDoor.PFnTreeLevel Go.Proofs.YtghppnklhbbffaaGreatDoorW.PrintWords Go.Proofs.YtghppnklhbbffaaGreatDoorW.PrintMore
def E57 (x:S57):S36:=⟨x.f0,x.f1,x.f2⟩
def E66 (x:S66):S47:=⟨x.f0,x.f1⟩
def C36 (x:S36):List Value:=[.string x.f0,.int .u64 x.f1,.string x.f2]
def C47 (x:S47):List Value:=[.int .u8 x.f0,.string x.f1]
def TM (a:Addr) (n c:Nat) (ov:V1) (j:Int) (ys:Nat→Value):List SV:=mkT 18 [(3,o1 ov),(6,.sl a n c),(7,.si .i64 n),(8,.si .i64 j)] ys
def JM [Bd] {α:Type} (l:List α) (C:α→List Value) (e size:Nat) (a:Addr) (n c:Nat) (w0:World) (m:Nat) (bs:List Nat) (T:List SV) (H:List SB) (w:World):Prop:=
 ∃ (j:Nat) (ys:Nat→Value) (ov:V1),j≤n∧m+j=n∧bs=[]∧T=TM a n c ov j ys∧H=[]∧w.ownsRow Bd.B e size ov.1 j ((l.take j).flatMap C)∧Kept [e] w0 w
noncomputable def S32 (a:Addr) (n c:Nat):ST:=runS Tryz.prog ⟨[],0,[],[],0⟩ 200 (startS Tryz.f32 [.sl a n c] [])
theorem c32K [Bd] (A:Option Addr) (c:Nat) (l:List S57) (w:World) (hr:Kd.C k57 w A l.length l) (hl:l.length < 2^30) (hw:w.heap.size=Bd.B) (hB0:autoParam (Bd.B≤w.heap.size) sz0._auto_1):
  Calls Tryz.prog 32 #[.slice A l.length c] w fun e w'=> ∃ v:V1,e=.returned v.1∧w'.ownsRow Bd.B 36 3 v.1 l.length ((l.map E57).flatMap C36)∧Kept [36] w w':=by
 generalize hn:l.length=n at *
 cases A with
 |none=>
  obtain rfl:n=0:=Nat.eq_zero_of_not_pos fun h=>by obtain ⟨ad,e,_⟩:=hr.2.2 h;cases e
  obtain rfl:=List.eq_nil_of_length_eq_zero hn
  refine gs (bs:=[]) [.oc (.slice none 0 c) rfl] [] Tryz.func32 (sat0 w) fun hW=>?_
  refine gr0 200 ⟨[],0,[],[],0⟩ hW fun w1 hK1 hW1=>?_
  refine go_lenS 53 57 (.tmp 6) none 0 c [] (by kernel_rfl) (by kernel_rfl) (by kernel_rfl) hW1 (by kernel_rfl) fun hV1=>?_
  refine gr0 (bs:=[]) 200 ⟨[],0,[],[(9,false)],1⟩ hV1 (fun w2 hK2 hW2=>?_) [(decide ((0:Int) < ((0:Nat):Int)),false)] ⟨rfl,trivial⟩
  exact gt .ns hW2.sat ⟨⟨.slice none 0 0,rfl⟩,rfl,World.ownsRow_nil _ _ _ _,(hK1.trans hK2).mono (by simp)⟩
 |some a=>
 refine gs (bs:=[]) [.sl a n c] [] Tryz.func32 (sat0 w) fun hW=>?_
 refine gr0 200 ⟨[],0,[],[],0⟩ hW fun w1 hK1 hW1=>?_
 refine go_loop (s:=S32 a n c) (bs:=[]) (JM (l.map E57) C36 36 3 a n c w) n (by kernel_rfl) hW1 (fun ys=>TM a n c ⟨.slice none 0 0,rfl⟩ 0 ys) [] (by kernel_rfl) (by kernel_rfl) (fun ys=>⟨0,ys,⟨.slice none 0 0,rfl⟩,by omega,by omega,rfl,rfl,rfl,World.ownsRow_nil _ _ _ _,hK1.mono (by simp)⟩) ?_ ?_
 ·rintro m bs' T H w' ⟨j,ys,_,_,_,rfl,_⟩
  exact ⟨[],rfl⟩
 ·rintro m bs' T H w' ⟨j,ys,ov,hj,hm,rfl,rfl,rfl,hown,hX⟩ hW'
  by_cases hlt:j < n
  ·refine gr0 (bs:=[]) 200 ⟨[],0,[],[(9,true)],0⟩ hW' (fun v1 hG1 hV1=>?_) [(decide ((j:Int) < n),true),(decide ((0:Int)≤j),true),(decide ((j:Int) < n),true)] ⟨by simpa using hlt,by simp,by simpa using hlt,trivial⟩
   obtain ⟨ad,cs,e1,_,hK,hcell⟩:=ReadsRow.get_ (Kd.C_below hr (Kept.toBelow (hX.trans (hG1.mono (by simp))) hw)) z57 (j:Int) (by omega) (by omega)
   cases e1
   have hx:l.getD (j:Int).toNat z57=l[j]:=by simp [List.getD_eq_getElem?_getD,hn,hlt]
   rw [hx] at hK
   generalize hx:l[j]=x at hK
   obtain rfl:=k57_open hK
   refine go_loadA 57 (.tmp 10) (a.add ((j:Int).toNat*3)) [sv x.f0,.si .u64 x.f1,sv x.f2] [] (by kernel_rfl) (by kernel_rfl) (by kernel_rfl) (by kernel_rfl) hV1 (by kernel_rfl) (fun i y hy=>by rw [Addr.add_add];exact hcell i _ (denL_getS (bs:=[]) hy)) (fun hV2=>?_)
   refine gr1 (bs:=[]) 200 ⟨[],0,[],[],0⟩ hV2 fun xb v3 _ hG3 hV3=>?_
   have hown3:=own_kept hown (hG1.trans hG3) (by simp)
   refine zapp 40 36 3 40 (.agg #[.string ⟨#[]⟩,.int .u64 0,.string ⟨#[]⟩]) 13 12 14 [sv x.f0,.si .u64 x.f1,sv x.f2] ov j _ [⟨57,[sv x.f0,.si .u64 x.f1,sv x.f2]⟩] hV3 hown3 (by omega) (hV3.sat.ne_own hown3 (by kernel_rfl)) (fun nb v' v4 hown4 hK4 _ hV4=>?_)
   refine gr0 (bs:=[xb,nb]) 200 ⟨[],2,[],[],0⟩ hV4 fun v5 hK5 hV5=>?_
   refine go_fin (Hand (JM (l.map E57) C36 36 3 a n c w) m) (by kernel_rfl) (fun ys=>TM a n c v' (IntKind.i64.wrap ((j:Int)+1)) ys) (by kernel_rfl) (fun ys=>?_)
   rw [wrap_succ j (by omega)]
   refine ⟨m - 1,by omega,[],TM a n c v' ((j+1:Nat):Int) ys,[],actS_cut [] [xb,nb] _ (by kernel_rfl),sat0 v5 hV5.sz,j+1,ys,v',by omega,by omega,rfl,rfl,rfl,?_,hX.trans ((hG1.trans hG3).tr (hK4.tr hK5 (ts:=[36])) (ts:=[36]))⟩
   rw [List.take_succ_eq_append_getElem (by rw [List.length_map];omega),List.flatMap_append,List.getElem_map,hx]
   exact own_kept hown4 hK5 (by simp)
  ·obtain rfl:j=n:=by omega
   refine gr0 (bs:=[]) 200 ⟨[],0,[],[(9,false)],0⟩ hW' (fun v1 hG1 hV1=>?_) [(decide ((j:Int) < j),false)] ⟨by simp,trivial⟩
   rw [show (l.map E57).take j=l.map E57 from List.take_of_length_le (by rw [List.length_map];omega)] at hown
   exact gt (o1 ov) hV1.sat ⟨ov,rfl,own_kept hown hG1 (by simp),hX.trans (hG1.mono (by simp))⟩
theorem c32 [Bd] (A:Option Addr) (c:Nat) (l:List S57) (w:World) (hr:Kd.C k57 w A l.length l) (hl:l.length < 2^30):
  Calls Tryz.prog 32 #[.slice A l.length c] w fun e w'=> ∃ v,e=.returned v∧RK k36 36 w' v (l.map E57)∧Ext w w':=by
 have h:= @c32K ⟨w.heap.size⟩ A c l w hr hl rfl (Nat.le_refl _)
 refine h.mono fun e w' ⟨v,h1,h2,h3⟩=>⟨v.1,h1,⟨w.heap.size,fun _ _=>trivial,_,?_,reps_flat C36 (fun _=>rfl) (fun x=>k36_mkM _ _ _ x) (l.map E57)⟩,ext_at _ _ h3 (Nat.le_refl _)⟩
 rw [List.length_map]
 exact h2
noncomputable def S14 (a:Addr) (n c:Nat):ST:=runS Tryz.prog ⟨[],0,[],[],0⟩ 200 (startS Tryz.f14 [.sl a n c] [])
theorem c14K [Bd] (A:Option Addr) (c:Nat) (l:List S66) (w:World) (hr:Kd.C k66 w A l.length l) (hl:l.length < 2^30) (hw:w.heap.size=Bd.B) (hB0:autoParam (Bd.B≤w.heap.size) sz0._auto_1):
  Calls Tryz.prog 14 #[.slice A l.length c] w fun e w'=> ∃ v:V1,e=.returned v.1∧w'.ownsRow Bd.B 47 2 v.1 l.length ((l.map E66).flatMap C47)∧Kept [47] w w':=by
 generalize hn:l.length=n at *
 cases A with
 |none=>
  obtain rfl:n=0:=Nat.eq_zero_of_not_pos fun h=>by obtain ⟨ad,e,_⟩:=hr.2.2 h;cases e
  obtain rfl:=List.eq_nil_of_length_eq_zero hn
  refine gs (bs:=[]) [.oc (.slice none 0 c) rfl] [] Tryz.func14 (sat0 w) fun hW=>?_
  refine gr0 200 ⟨[],0,[],[],0⟩ hW fun w1 hK1 hW1=>?_
  refine go_lenS 25 66 (.tmp 6) none 0 c [] (by kernel_rfl) (by kernel_rfl) (by kernel_rfl) hW1 (by kernel_rfl) fun hV1=>?_
  refine gr0 (bs:=[]) 200 ⟨[],0,[],[(9,false)],1⟩ hV1 (fun w2 hK2 hW2=>?_) [(decide ((0:Int) < ((0:Nat):Int)),false)] ⟨rfl,trivial⟩
  exact gt .ns hW2.sat ⟨⟨.slice none 0 0,rfl⟩,rfl,World.ownsRow_nil _ _ _ _,(hK1.trans hK2).mono (by simp)⟩
 |some a=>
 refine gs (bs:=[]) [.sl a n c] [] Tryz.func14 (sat0 w) fun hW=>?_
 refine gr0 200 ⟨[],0,[],[],0⟩ hW fun w1 hK1 hW1=>?_
 refine go_loop (s:=S14 a n c) (bs:=[]) (JM (l.map E66) C47 47 2 a n c w) n (by kernel_rfl) hW1 (fun ys=>TM a n c ⟨.slice none 0 0,rfl⟩ 0 ys) [] (by kernel_rfl) (by kernel_rfl) (fun ys=>⟨0,ys,⟨.slice none 0 0,rfl⟩,by omega,by omega,rfl,rfl,rfl,World.ownsRow_nil _ _ _ _,hK1.mono (by simp)⟩) ?_ ?_
 ·rintro m bs' T H w' ⟨j,ys,_,_,_,rfl,_⟩
  exact ⟨[],rfl⟩
 ·rintro m bs' T H w' ⟨j,ys,ov,hj,hm,rfl,rfl,rfl,hown,hX⟩ hW'
  by_cases hlt:j < n
  ·refine gr0 (bs:=[]) 200 ⟨[],0,[],[(9,true)],0⟩ hW' (fun v1 hG1 hV1=>?_) [(decide ((j:Int) < n),true),(decide ((0:Int)≤j),true),(decide ((j:Int) < n),true)] ⟨by simpa using hlt,by simp,by simpa using hlt,trivial⟩
   obtain ⟨ad,cs,e1,_,hK,hcell⟩:=ReadsRow.get_ (Kd.C_below hr (Kept.toBelow (hX.trans (hG1.mono (by simp))) hw)) z66 (j:Int) (by omega) (by omega)
   cases e1
   have hx:l.getD (j:Int).toNat z66=l[j]:=by simp [List.getD_eq_getElem?_getD,hn,hlt]
   rw [hx] at hK
   generalize hx:l[j]=x at hK
   obtain rfl:=k66_open hK
   refine go_loadA 66 (.tmp 10) (a.add ((j:Int).toNat*2)) [.si .u8 x.f0,sv x.f1] [] (by kernel_rfl) (by kernel_rfl) (by kernel_rfl) (by kernel_rfl) hV1 (by kernel_rfl) (fun i y hy=>by rw [Addr.add_add];exact hcell i _ (denL_getS (bs:=[]) hy)) (fun hV2=>?_)
   refine gr1 (bs:=[]) 200 ⟨[],0,[],[],0⟩ hV2 fun xb v3 _ hG3 hV3=>?_
   have hown3:=own_kept hown (hG1.trans hG3) (by simp)
   refine zapp 48 47 2 24 (.agg #[.int .u8 0,.string ⟨#[]⟩]) 13 12 14 [.si .u8 x.f0,sv x.f1] ov j _ [⟨66,[.si .u8 x.f0,sv x.f1]⟩] hV3 hown3 (by omega) (hV3.sat.ne_own hown3 (by kernel_rfl)) (fun nb v' v4 hown4 hK4 _ hV4=>?_)
   refine gr0 (bs:=[xb,nb]) 200 ⟨[],2,[],[],0⟩ hV4 fun v5 hK5 hV5=>?_
   refine go_fin (Hand (JM (l.map E66) C47 47 2 a n c w) m) (by kernel_rfl) (fun ys=>TM a n c v' (IntKind.i64.wrap ((j:Int)+1)) ys) (by kernel_rfl) (fun ys=>?_)
   rw [wrap_succ j (by omega)]
   refine ⟨m - 1,by omega,[],TM a n c v' ((j+1:Nat):Int) ys,[],actS_cut [] [xb,nb] _ (by kernel_rfl),sat0 v5 hV5.sz,j+1,ys,v',by omega,by omega,rfl,rfl,rfl,?_,hX.trans ((hG1.trans hG3).tr (hK4.tr hK5 (ts:=[47])) (ts:=[47]))⟩
   rw [List.take_succ_eq_append_getElem (by rw [List.length_map];omega),List.flatMap_append,List.getElem_map,hx]
   exact own_kept hown4 hK5 (by simp)
  ·obtain rfl:j=n:=by omega
   refine gr0 (bs:=[]) 200 ⟨[],0,[],[(9,false)],0⟩ hW' (fun v1 hG1 hV1=>?_) [(decide ((j:Int) < j),false)] ⟨by simp,trivial⟩
   rw [show (l.map E66).take j=l.map E66 from List.take_of_length_le (by rw [List.length_map];omega)] at hown
   exact gt (o1 ov) hV1.sat ⟨ov,rfl,own_kept hown hG1 (by simp),hX.trans (hG1.mono (by simp))⟩
theorem c14 [Bd] (A:Option Addr) (c:Nat) (l:List S66) (w:World) (hr:Kd.C k66 w A l.length l) (hl:l.length < 2^30):
  Calls Tryz.prog 14 #[.slice A l.length c] w fun e w'=> ∃ v,e=.returned v∧RK k47 47 w' v (l.map E66)∧Ext w w':=by
 have h:= @c14K ⟨w.heap.size⟩ A c l w hr hl rfl (Nat.le_refl _)
 refine h.mono fun e w' ⟨v,h1,h2,h3⟩=>⟨v.1,h1,⟨w.heap.size,fun _ _=>trivial,_,?_,reps_flat C47 (fun _=>rfl) (fun x=>k47_mkM _ _ _ x) (l.map E66)⟩,ext_at _ _ h3 (Nat.le_refl _)⟩
 rw [List.length_map]
 exact h2
theorem c33_0 [Bd] (A:Option Addr) (c:Nat) (w:World):Calls Tryz.prog 33 #[.slice A 0 c] w fun e w'=>e=.returned (.slice none 0 0)∧Ext w w':=by
 have hu253:=Tryz.underlying253
 have HB:=Aside0.mk (Below.refl w.heap.size w)
 go_enter Tryz.func33,Tryz.ntmps33
 go_wp2
 go_loopg [3,8] 1 (fun kq v3 v8 w'=>v3=.slice none 0 0∧v8=.int .i64 0∧Aside0 (Below w.heap.size w w'))
 case atStart=>exact ⟨rfl,rfl,⟨by repeat (first|(with_reducible first|exact HB.out|apply below_alloc|apply pw_below_drewN|apply below_drew1)|exact HB.out)⟩⟩
 case round=>
  obtain ⟨rfl,rfl,HB⟩:=hrel
  go_wp2
  go_ret
  exact ⟨rfl,Ext.of_below (by repeat (first|(with_reducible first|exact HB.out|apply below_alloc|apply pw_below_drewN|apply below_drew1)|exact HB.out))⟩
theorem c13_0 [Bd] (A:Option Addr) (c:Nat) (w:World):Calls Tryz.prog 13 #[.slice A 0 c] w fun e w'=>e=.returned (.slice none 0 0)∧Ext w w':=by
 have hu56:=Tryz.underlying56
 have HB:=Aside0.mk (Below.refl w.heap.size w)
 go_enter Tryz.func13,Tryz.ntmps13
 go_wp2
 go_loopg [3,8] 1 (fun kq v3 v8 w'=>v3=.slice none 0 0∧v8=.int .i64 0∧Aside0 (Below w.heap.size w w'))
 case atStart=>exact ⟨rfl,rfl,⟨by repeat (first|(with_reducible first|exact HB.out|apply below_alloc|apply pw_below_drewN|apply below_drew1)|exact HB.out)⟩⟩
 case round=>
  obtain ⟨rfl,rfl,HB⟩:=hrel
  go_wp2
  go_ret
  exact ⟨rfl,Ext.of_below (by repeat (first|(with_reducible first|exact HB.out|apply below_alloc|apply pw_below_drewN|apply below_drew1)|exact HB.out))⟩
theorem fm_congr {f g:Nat→List Value}: ∀ {l:List Nat},(∀ i∈l,f i=g i)→l.flatMap f=l.flatMap g
 |[],_=>rfl
 |a::l,h=>by rw [List.flatMap_cons,List.flatMap_cons,h a (by simp),fm_congr (l:=l) (fun i hi=>h i (by simp [hi]))]
def tabC (num:Nat→Int) (pv:Nat→Value) (i:Nat):List Value:=[.int .u64 (num i),pv i,.slice none 0 0]
noncomputable def S13 (A:Addr) (n c:Nat):ST:=runS Tryz.prog ⟨[],0,[],[],0⟩ 200 (startS Tryz.f13 [.sl A n c] [])
def T13 (A:Addr) (n c:Nat) (fv:V1) (j:Int) (xs:Nat→Value):List SV:=mkT 26 [(3,o1 fv),(6,.sl A n c),(7,.si .i64 n),(8,.si .i64 j)] xs
def I13 [Bd] (xs:List S56) (fv:V1) (j:Nat) (pv:Nat→Value) (w:World):Prop:=
 w.ownsRow Bd.B 43 3 fv.1 j ((List.range j).flatMap (tabC (fun i=>(xs.getD i z56).f0) pv))∧ ∀ i,i < j→RK k36 36 w (pv i) ((xs.getD i z56).f1.map E57)
def J13 [Bd] (A:Addr) (n c:Nat) (xs:List S56) (w0:World) (m:Nat) (bs:List Nat) (T:List SV) (H:List SB) (w:World):Prop:=
 ∃ (j:Nat) (ys:Nat→Value) (fv:V1) (pv:Nat→Value),j≤n∧m+j=n∧bs=[]∧T=T13 A n c fv j ys∧H=[]∧I13 xs fv j pv w∧Kept [43] w0 w
theorem c13 [Bd] (A:Addr) (n c:Nat) (xs:List S56) (w0 w:World) (hn:xs.length=n) (hl:n≤10) (hr:Kd.C k56 w0 (some A) xs.length xs) (hw0:w0.heap.size=Bd.B) (hbel:Below w0.heap.size w0 w) (ht: ∀ x∈xs,x.f2=[]) (hp: ∀ x∈xs,x.f1.length < 2^30) (hB0:autoParam (Bd.B≤w.heap.size) sz0._auto_1):
  Calls Tryz.prog 13 #[.slice (some A) n c] w fun e w'=> ∃ (fv:V1) (pv:Nat→Value),e=.returned fv.1∧I13 xs fv n pv w'∧Kept [43] w w':=by
 have hcells: ∀ w',Kept [43] w w'→ ∀ j (hj:j < n), ∃ A1 c1 A2 c2,w'.cell? (A.add (j*3))=some (.int .u64 (xs.getD j z56).f0)∧w'.cell? ((A.add (j*3)).add 1)=some (.slice A1 (xs.getD j z56).f1.length c1)∧w'.cell? ((A.add (j*3)).add 2)=some (.slice A2 0 c2)∧(xs.getD j z56).f1.length≤c1∧Kd.C k57 w' A1 (xs.getD j z56).f1.length (xs.getD j z56).f1:=by
  intro w' hk j hj
  have hb:Below w0.heap.size w0 w':=⟨hk.os.trans hbel.os,hk.tape.trans hbel.tape,hk.output.trans hbel.output,Nat.le_trans hbel.size hk.size,fun k hlt=>(hk.prot (by omega) (Nat.lt_of_lt_of_le hlt hbel.size)).trans (hbel.block k hlt)⟩
  have hx:j < xs.length:=by omega
  have hx0:xs.getD j z56=xs[j]:=by simp [List.getD_eq_getElem?_getD,hx]
  rw [hx0]
  obtain ⟨ad,A1,c1,A2,c2,e1,g1,g2,g3,_,g4,g5,g6,g7⟩:=at56 (Kd.C_below hr hb) j hx
  cases e1
  have htj:xs[j].f2=[]:=ht _ (List.getElem_mem _)
  rw [htj] at g3
  exact ⟨A1,c1,A2,c2,g1,g2,g3,g4,g5⟩
 have hpn: ∀ j,j < n→(xs.getD j z56).f1.length < 2^30:=fun j hj=>by
  have hx:j < xs.length:=by omega
  have hx0:xs.getD j z56=xs[j]:=by simp [List.getD_eq_getElem?_getD,hx]
  rw [hx0];exact hp _ (List.getElem_mem _)
 clear hr hbel ht hp
 refine gs (bs:=[]) [.sl A n c] [] Tryz.func13 (sat0 w) (fun hW=>?_)
 refine gr0 200 ⟨[],0,[],[],0⟩ hW fun w1 hE1 hW1=>?_
 have hI0:I13 xs nilV 0 (fun _=>.slice none 0 0) w1:=⟨World.ownsRow_nil _ _ _ _,fun i h=>absurd h (by omega)⟩
 refine go_loop (s:=S13 A n c) (bs:=[]) (J13 A n c xs w) n (by kernel_rfl) hW1 (fun ys=>T13 A n c nilV 0 ys) [] (by kernel_rfl) (by kernel_rfl)
  (fun ys=>⟨0,ys,nilV,_,by omega,by omega,rfl,rfl,rfl,hI0,hE1.mono (by simp)⟩) ?_ ?_
 ·rintro m bs' T H w' ⟨j,ys,fv,pv,_,_,rfl,_⟩
  exact ⟨[],rfl⟩
 ·rintro m bs' T H w' ⟨j,ys,fv,pv,hj,hm,rfl,rfl,rfl,hI,hKw⟩ hW'
  by_cases hlt:j < n
  ·refine go_run (s:=bodyS (S13 A n c) (Hand (J13 A n c xs w) m) (T13 A n c fv j ys) []) (bs:=[]) 200 ⟨[],0,[],[(9,true)],0⟩ (by kernel_rfl) hW' rfl [(decide ((j:Int) < n),true),(decide ((0:Int)≤j),true),(decide ((j:Int) < n),true)] (by kernel_rfl) ⟨by simpa using hlt,by simp,by simpa using hlt,trivial⟩ ?_
   intro nw v1 _ hG1 hV1
   obtain rfl:=nw0 (hV1.num 0 (by kernel_rfl)) rfl
   obtain ⟨A1,c1,A2,c2,p1,p2,p3,p4,p5⟩:=hcells v1 (hKw.trans (hG1.mono (by simp))) j hlt
   have hpl:=hpn j hlt
   generalize hE:xs.getD j z56=x at *
   refine go_loadA 56 (.tmp 10) (A.add ((j:Int).toNat*3)) [.si .u64 x.f0,.oc (.slice A1 x.f1.length c1) rfl,.oc (.slice A2 0 c2) rfl] [] (by kernel_rfl) (by kernel_rfl) (by kernel_rfl) (by kernel_rfl) hV1 (by kernel_rfl) ?_ (fun hV2=>?_)
   ·intro i y hy
    rw [Int.toNat_natCast]
    match i,hy with
    |0,hy=>cases hy;rw [show (A.add (j*3)).add 0=A.add (j*3) by simp [Addr.add]];exact p1
    |1,hy=>cases hy;exact p2
    |2,hy=>cases hy;exact p3
   refine gr1 (bs:=[]) 200 ⟨[],0,[],[],0⟩ hV2 fun xb v3 _ hG3 hV3=>?_
   refine gd [43] [] hV3 (fun hD=>?_)
   refine gr0 (bs:=[xb]) 200 ⟨[],1,[],[],0⟩ hD fun v6 hG6 hV6=>?_
   have hX:Ext v1 v6:=hG3.trans (((Kept.refl [] v3).drew).trans hG6)
   have hs6:=hV6.sq [⟨56,[.si .u64 x.f0,.oc (.slice A1 x.f1.length c1) rfl,.oc (.slice A2 0 c2) rfl]⟩]
   refine gcd 32 [.oc (.slice A1 x.f1.length c1) rfl] [43] v3.drew hV6 (fun hC=>?_)
   refine (c32 A1 c1 x.f1 v6 (Kd.C_below p5 hX.below) (by omega)).mono ?_
   rintro e v7 ⟨vp,rfl,hvp,hE7⟩
   obtain ⟨Av,cv,hpv,_,_⟩:=hvp.at36
   have hv1:vp.oneCell'=true:=by rw [hpv];rfl
   have hs7:=hs6.kq hE7
   refine ⟨.oc vp hv1,[],_,rfl,hs7,hC.trans (hE7.mono (by simp)),fun hV7=>?_⟩
   refine gr0 (bs:=[xb]) 200 ⟨[],1,[],[],0⟩ hV7 fun v8 hG8 hV8=>?_
   have hs8:=hV8.sq [⟨56,[.si .u64 x.f0,.oc (.slice A1 x.f1.length c1) rfl,.oc (.slice A2 0 c2) rfl]⟩]
   refine gcd 33 [.oc (.slice A2 0 c2) rfl] [43] v3.drew hV8 (fun hC=>?_)
   refine (c33_0 A2 c2 v8).mono ?_
   rintro e v9 ⟨rfl,hE9⟩
   refine ⟨.ns,[],_,rfl,hs8.kq hE9,hC.trans (hE9.mono (by simp)),fun hV9=>?_⟩
   refine gr0 (bs:=[xb]) 200 ⟨[],1,[],[],0⟩ hV9 fun v10 hG10 hV10=>?_
   refine go_bsliceD 44 43 3 [43] v3.drew (.tmp 21) [.si .u64 x.f0,.oc vp hv1,.ns] [⟨56,[.si .u64 x.f0,.oc (.slice A1 x.f1.length c1) rfl,.oc (.slice A2 0 c2) rfl]⟩] (by kernel_rfl) (by kernel_rfl) (by kernel_rfl) (by kernel_rfl) (by kernel_rfl) rfl (by omega) (by omega) hV10 (by kernel_rfl) (by kernel_rfl) (by kernel_rfl) (fun rb v11 hrb hE11 hV11=>?_)
   have hs11:=hV11.sq ([⟨56,[.si .u64 x.f0,.oc (.slice A1 x.f1.length c1) rfl,.oc (.slice A2 0 c2) rfl]⟩]++[⟨43,[.si .u64 x.f0,.oc vp hv1,.ns]⟩])
   have hX10:Ext w' v10:=hG1.trans (hX.trans (hE7.trans (hG8.trans (hE9.trans hG10))))
   have hX11:Ext w' v11:=hX10.trans hE11
   have hown11:=own_kept hI.1 hX11 (by simp)
   refine go_appendD 44 43 3 56 [43] v3.drew (.agg #[.int .u64 0,.slice none 0 0,.slice none 0 0]) (.tmp 12) (.tmp 22) fv.1 j ((List.range j).flatMap (tabC (fun i=>(xs.getD i z56).f0) pv)) ⟨rb,0,none⟩ 1 1 [.int .u64 x.f0,vp,.slice none 0 0] ([⟨56,[.si .u64 x.f0,.oc (.slice A1 x.f1.length c1) rfl,.oc (.slice A2 0 c2) rfl]⟩]++[⟨43,[.si .u64 x.f0,.oc vp hv1,.ns]⟩]) (by kernel_rfl) (by kernel_rfl) (by simp) (by kernel_rfl) (by kernel_rfl) (by kernel_rfl) (by kernel_rfl) rfl (by omega) hV11 (by kernel_rfl) hown11 rfl ?_ ?_ ?_ ?_ ?_ ?_
   ·intro i u hu
    match i,hu with
    |0,hu=>cases hu;exact hs11.cell 1 43 [.si .u64 x.f0,.oc vp hv1,.ns] rfl 0 (.si .u64 x.f0) rfl
    |1,hu=>cases hu;exact hs11.cell 1 43 [.si .u64 x.f0,.oc vp hv1,.ns] rfl 1 (.oc vp hv1) rfl
    |2,hu=>cases hu;exact hs11.cell 1 43 [.si .u64 x.f0,.oc vp hv1,.ns] rfl 2 .ns rfl
   ·intro u hu
    simp only [List.mem_cons,List.not_mem_nil,or_false] at hu
    rcases hu with rfl|rfl|rfl
    ·rfl
    ·exact hv1
    ·rfl
   ·simp only [maxLen];omega
   ·omega
   ·intro b hb he
    have hb3:b∈[xb,rb]:=hb
    simp only [List.mem_cons,List.not_mem_nil,or_false] at hb3
    rcases hb3 with rfl|rfl
    ·exact own_ne_ty hown11 he.symm (hs11.mem 0 _ rfl) (by simp)
    ·have hlt':=own_lt' hI.1 _ he.symm
     have h9:=hX10.size
     omega
   ·intro v' v12 ho hown12 hK12 hF12 hor hV12
    refine gr0 (bs:=[xb,rb]) 200 ⟨[],2,[],[],0⟩ hV12 fun v13 hK13 hV13=>?_
    have hB:Kept [43] w' v13:=hX11.tr (hK12.tr hK13 (ts:=[43])) (ts:=[43])
    have hB7:Kept [43] v7 v13:=hG8.tr (hE9.tr (hG10.tr (hE11.tr (hK12.tr hK13 (ts:=[43])) (ts:=[43])) (ts:=[43])) (ts:=[43])) (ts:=[43])
    have hI13:I13 xs ⟨v',ho⟩ (j+1) (fun i=>if i=j then vp else pv i) v13:=by
     refine ⟨?_,fun i hi=>?_⟩
     ·have e1:(List.range (j+1)).flatMap (tabC (fun i=>(xs.getD i z56).f0) (fun i=>if i=j then vp else pv i))=(List.range j).flatMap (tabC (fun i=>(xs.getD i z56).f0) pv)++[.int .u64 x.f0,vp,.slice none 0 0]:=by
       rw [List.range_succ,List.flatMap_append]
       congr 1
       ·apply fm_congr
        intro i hi
        have:=List.mem_range.1 hi
        unfold tabC
        dsimp only
        rw [if_neg (by omega)]
       ·simp [tabC, ←hE]
      rw [e1]
      exact own_kept hown12 hK13 (by simp)
     ·by_cases hij:i=j
      ·subst hij
       simp only [if_true]
       rw [hE]
       exact hvp.kept hB7 (by decide)
      ·simp only [if_neg hij]
       exact (hI.2 i (by omega)).kept hB (by decide)
    refine go_fin (Hand (J13 A n c xs w) m) (by kernel_rfl) (fun ys=>T13 A n c ⟨v',ho⟩ (IntKind.i64.wrap ((j:Int)+1)) ys) (by kernel_rfl) (fun ys=>?_)
    rw [wrap_succ j (by omega)]
    refine ⟨m - 1,by omega,[],T13 A n c ⟨v',ho⟩ ((j+1:Nat):Int) ys,[],?_,sat0 v13 hV13.sz,?_⟩
    ·exact actS_cut [] [xb,rb] _ (by kernel_rfl)
    ·exact ⟨j+1,ys,⟨v',ho⟩,_,by omega,by omega,rfl,rfl,rfl,hI13,hKw.trans hB⟩
  ·obtain rfl:n=j:=by omega
   refine go_run (s:=bodyS (S13 A n c) (Hand (J13 A n c xs w) m) (T13 A n c fv n ys) []) (bs:=[]) 200 ⟨[],0,[],[(9,false)],0⟩ (by kernel_rfl) hW' rfl [(decide ((n:Int) < n),false)] (by kernel_rfl) ⟨by simp,trivial⟩ ?_
   intro nw v1 _ hG1 hV1
   obtain rfl:=nw0 (hV1.num 0 (by kernel_rfl)) rfl
   exact gt (o1 fv) hV1.sat ⟨fv,pv,rfl,⟨own_kept hI.1 hG1 (by simp),fun i hi=>(hI.2 i hi).kept hG1 (by decide)⟩,hKw.trans (hG1.mono (by simp))⟩
def conv (x:S50):S145:=⟨⟨x.f0.f0,x.f0.f1,x.f0.f2⟩,x.f1⟩
theorem rd57i [Bd] {l:List S57} {i:Nat} (h:i < l.length):rd_T57 l (i:Int)=l[i]:=by unfold rd_T57;simp [List.getD_eq_getElem?_getD,h]
def stepA (l:List S57) (a:Int×Bool) (s:S66):Option Int:=
 if s.f0=0 then some 0 else if s.f0=1 then some ((l.length:Int) - 1) else if s.f0=4 then some (lSeek (l.map E57) (bs s.f1):Nat) else if s.f0=5 then some ((lSeek (l.map E57) (bs s.f1):Nat) - 1)
 else if s.f0=2 then (if a.2=true∧a.1 < l.length then some (a.1+1) else none) else if s.f0=3 then (if a.2=true∧0≤a.1 then some (a.1 - 1) else none) else none
def outA (l:List S57) (o:Option Int):S145:=match o with
 |none=>z145
 |some t=>if 0≤t∧t < l.length then ⟨rd_T57 l t,true⟩ else z145
def nextA (a:Int×Bool) (o:Option Int):Int×Bool:=match o with
 |none=>a
 |some t=>(t,true)
def walkA (l:List S57):Int×Bool→List S66→List S145
 |_,[]=>[]
 |a,s::r=>outA l (stepA l a s)::walkA l (nextA a (stepA l a s)) r
theorem walkA_len [Bd] (l:List S57): ∀ (steps:List S66) (a:Int×Bool),(walkA l a steps).length=steps.length
 |[],_=>rfl
 |s::r,a=>by rw [walkA,List.length_cons,List.length_cons,walkA_len l r]
theorem walkA_snoc [Bd] (l:List S57) (s:S66): ∀ (steps:List S66) (a:Int×Bool),walkA l a (steps++[s])=walkA l a steps++[outA l (stepA l (steps.foldl (fun a s=>nextA a (stepA l a s)) a) s)]
 |[],a=>rfl
 |x::r,a=>by
  rw [List.cons_append,walkA,walkA,walkA_snoc l s r]
  rfl
def Srt (l:List S57):Prop:= ∀ i j (hi:i < l.length) (hj:j < l.length),i≤j→cmpB l[i].f0 l[j].f0≤0
theorem Srt.seek [Bd] {l:List S57} (h:Srt l) (key:ByteArray) (i:Nat) (hi:i < l.length):i < lSeek (l.map E57) (bs key)↔cmpB l[i].f0 key < 0:=by
 have hle:=lSeek_le (l.map E57) (bs key)
 rw [List.length_map] at hle
 constructor
 ·intro h1
  have:=lSeek_lt (l.map E57) (bs key) i h1 (by simpa using hi)
  simp only [List.getElem_map] at this
  exact this
 ·intro h1
  rcases Nat.lt_or_ge i (lSeek (l.map E57) (bs key)) with h2|h2
  ·exact h2
  ·have h3:lSeek (l.map E57) (bs key) < l.length:=by omega
   have h4:=lSeek_ge (l.map E57) (bs key) (by simpa using h3)
   have h5: ¬ cmpB l[lSeek (l.map E57) (bs key)].f0 key < 0:=by
    simp only [List.getElem_map] at h4
    exact h4
   exact absurd (cmpB_le_lt (h _ _ h3 hi h2) h1) h5
theorem stepA_bd [Bd] {l:List S57} {a:Int×Bool} (s:S66) (h0: -1≤a.1) (h1:a.1≤l.length): -1≤(nextA a (stepA l a s)).1∧(nextA a (stepA l a s)).1≤l.length:=by
 have hle:=lSeek_le (l.map E57) (bs s.f1)
 rw [List.length_map] at hle
 unfold stepA
 repeat' split
 all_goals simp only [nextA]
 all_goals omega
def posA (l:List S57) (done:List S66):Int×Bool:=done.foldl (fun a s=>nextA a (stepA l a s)) (0,false)
theorem posA_succ [Bd] (l:List S57) (steps:List S66) (j:Nat) (hj:j < steps.length):posA l (steps.take (j+1))=nextA (posA l (steps.take j)) (stepA l (posA l (steps.take j)) steps[j]):=by
 unfold posA
 rw [List.take_succ_eq_append_getElem hj,List.foldl_append]
 rfl
theorem posA_bd [Bd] (l:List S57): ∀ steps:List S66, -1≤(posA l steps).1∧(posA l steps).1≤l.length:=by
 have: ∀ (steps:List S66) (a:Int×Bool), -1≤a.1→a.1≤l.length→ -1≤(steps.foldl (fun a s=>nextA a (stepA l a s)) a).1∧(steps.foldl (fun a s=>nextA a (stepA l a s)) a).1≤l.length:=by
  intro steps
  induction steps with
  |nil=>exact fun a h1 h2=>⟨h1,h2⟩
  |cons s r ih=>exact fun a h1 h2=>ih _ (stepA_bd s h1 h2).1 (stepA_bd s h1 h2).2
 exact fun steps=>this steps _ (by decide) (by show (0:Int)≤_;omega)
def cells145 (x:S145):List Value:=[.string x.f0.f0,.int .u64 x.f0.f1,.string x.f0.f2,.bool x.f1]
theorem walkA_succ [Bd] (l:List S57) (steps:List S66) (j:Nat) (hj:j < steps.length):(walkA l (0,false) (steps.take (j+1))).flatMap cells145=(walkA l (0,false) (steps.take j)).flatMap cells145++cells145 (outA l (stepA l (posA l (steps.take j)) steps[j])):=by
 rw [List.take_succ_eq_append_getElem hj,walkA_snoc]
 simp [posA]
def lastOk (l:List S57) (done:List S66):Bool:=match (walkA l (0,false) done).getLast? with
 |none=>false
 |some x=>x.f1
structure InvS (l:List S57) (done:List S66) (p:Option Nat):Prop where
 ok:lastOk l done=p.isSome
 pos: ∀ i,p=some i→posA l done=((i:Int),true)∧i < l.length
def PL (n:Nat) (t:Int) (p:Option Nat):Prop:=(p=none∧ ¬ (0≤t∧t < n))∨ ∃ i,p=some i∧t=i∧i < n
theorem PL.inx [Bd] (G:List S36) (i:Nat):PL G.length i (inx G i):=by
 unfold X.inx
 split
 ·exact .inr ⟨i,rfl,rfl, ‹_›⟩
 ·exact .inl ⟨rfl,by omega⟩
theorem PL.dec [Bd] {n i:Nat} (h:i≤n):PL n ((i:Int) - 1) (if i=0 then none else some (i - 1)):=by
 split
 ·exact .inl ⟨rfl,by omega⟩
 ·exact .inr ⟨i - 1,rfl,by omega,by omega⟩
theorem InvS.do [Bd] {l:List S57} {done:List S66} {p:Option Nat} (h:InvS l done p) (s:S66) (h0:0≤s.f0) (h5:s.f0≤5) (hr:s.f0=2∨s.f0=3→p.isSome=true):
  InvS l (done++[s]) (stepP (l.map E57) p (E66 s))∧outA l (stepA l (posA l done) s)=conv (outP (l.map E57) p (E66 s))∧(stepA l (posA l done) s).isSome=true:=by
 have key: ∃ t,stepA l (posA l done) s=some t∧PL l.length t (stepP (l.map E57) p (E66 s)):=by
  have hle:=lSeek_le (l.map E57) (bs s.f1)
  have hll:(l.map E57).length=l.length:=List.length_map _
  rw [hll] at hle
  have hcase:s.f0=0∨s.f0=1∨s.f0=4∨s.f0=5∨s.f0=2∨s.f0=3:=by omega
  rcases hcase with c|c|c|c|c|c
  ·refine ⟨0,by simp [stepA,c],?_⟩
   have:stepP (l.map E57) p (E66 s)=inx (l.map E57) 0:=by simp [stepP,E66,c]
   rw [this, ←hll]
   exact PL.inx _ 0
  ·refine ⟨(l.length:Int) - 1,by simp [stepA,c],?_⟩
   have:stepP (l.map E57) p (E66 s)=if l.length=0 then none else some (l.length - 1):=by simp [stepP,E66,c,lastP]
   rw [this]
   exact PL.dec (Nat.le_refl _)
  ·refine ⟨(lSeek (l.map E57) (bs s.f1):Nat),by simp [stepA,c],?_⟩
   have:stepP (l.map E57) p (E66 s)=inx (l.map E57) (lSeek (l.map E57) (bs s.f1)):=by simp [stepP,E66,c,geP]
   rw [this, ←hll]
   exact PL.inx _ _
  ·refine ⟨(lSeek (l.map E57) (bs s.f1):Nat) - 1,by simp [stepA,c],?_⟩
   have:stepP (l.map E57) p (E66 s)=if lSeek (l.map E57) (bs s.f1)=0 then none else some (lSeek (l.map E57) (bs s.f1) - 1):=by simp [stepP,E66,c,ltP]
   rw [this]
   exact PL.dec hle
  ·obtain ⟨i,rfl⟩:=Option.isSome_iff_exists.1 (hr (.inl c))
   obtain ⟨e,hi⟩:=h.pos i rfl
   refine ⟨(i:Int)+1,by simp [stepA,c,e];omega,?_⟩
   have:stepP (l.map E57) (some i) (E66 s)=inx (l.map E57) (i+1):=by simp [stepP,E66,c,nxP]
   rw [this, ←hll]
   exact PL.inx _ (i+1)
  ·obtain ⟨i,rfl⟩:=Option.isSome_iff_exists.1 (hr (.inr c))
   obtain ⟨e,hi⟩:=h.pos i rfl
   refine ⟨(i:Int) - 1,by simp [stepA,c,e],?_⟩
   have:stepP (l.map E57) (some i) (E66 s)=if i=0 then none else some (i - 1):=by simp [stepP,E66,c,prevP]
   rw [this]
   exact PL.dec (by omega)
 obtain ⟨t,ht,hp⟩:=key
 have ho:outA l (stepA l (posA l done) s)=conv (outP (l.map E57) p (E66 s)):=by
  have h5': ¬ 5 < (E66 s).f0:=by show ¬ 5 < s.f0;omega
  unfold outP
  rw [if_neg h5',ht]
  rcases hp with ⟨e,hn⟩|⟨i,e,rfl,hi⟩
  ·rw [e]
   simp only [outA,if_neg hn]
   rfl
  ·rw [e]
   have hc:(0:Int)≤(i:Int)∧(i:Int) < (l.length:Int):=by omega
   simp only [outA,if_pos hc,rd57i hi]
   simp [foundP,conv,hi,E57]
 have hlast:lastOk l (done++[s])=(outA l (stepA l (posA l done) s)).f1:=by
  unfold lastOk
  rw [walkA_snoc,List.getLast?_concat]
  rfl
 refine ⟨⟨?_,fun i hi=>?_⟩,ho,by rw [ht];rfl⟩
 ·rw [hlast,ht]
  rcases hp with ⟨e,hn⟩|⟨i,e,rfl,hi⟩
  ·rw [e]
   simp only [outA,if_neg hn]
   rfl
  ·rw [e]
   have hc:(0:Int)≤(i:Int)∧(i:Int) < (l.length:Int):=by omega
   simp only [outA,if_pos hc]
   rfl
 ·have hpos:posA l (done++[s])=(t,true):=by
   show (done++[s]).foldl _ _=_
   rw [List.foldl_append]
   show nextA (posA l done) (stepA l (posA l done) s)=_
   rw [ht];rfl
  rcases hp with ⟨e,hn⟩|⟨i',e,rfl,hi'⟩
  ·rw [e] at hi;cases hi
  ·rw [e] at hi
   obtain rfl:=Option.some.inj hi
   exact ⟨hpos,hi'⟩
theorem stepP_rel [Bd] (G:List S36) (s:S47) (h:s.f0=2∨s.f0=3):stepP G none s=none:=by
 rcases h with h|h<;>simp [stepP,h]
theorem outP_rel [Bd] (G:List S36) (s:S47) (h:s.f0=2∨s.f0=3):outP G none s=z50:=by
 unfold outP
 split
 ·rfl
 ·rw [stepP_rel G s h];rfl
theorem stepP_big [Bd] (G:List S36) (p:Option Nat) (s:S47) (h:5 < s.f0):stepP G p s=p:=by
 unfold stepP
 rw [if_neg (by omega),if_neg (by omega),if_neg (by omega),if_neg (by omega),if_neg (by omega),if_neg (by omega)]
theorem outP_big [Bd] (G:List S36) (p:Option Nat) (s:S47) (h:5 < s.f0):outP G p s=z50:=by
 unfold outP
 rw [if_pos h]
end Go.Proofs.YtghppnklhbbffaaGreatDoor.X
