/- Part 33 of the proof that laws.FnTreeLevel answers true, for arguments of small bulk. -/
import Derived.Test.YtghppnklhbbffaaGreatDoorR05
import Derived.Test.YtghppnklhbbffaaGreatDoorR23
import Derived.Test.YtghppnklhbbffaaGreatDoorR31
import Derived.Test.YtghppnklhbbffaaGreatDoorR32
import Derived.Test.YtghppnklhbbffaaGreatDoorR26
import Derived.Test.YtghppnklhbbffaaGreatDoorR28
import Derived.Test.YtghppnklhbbffaaGreatDoorR09
set_option linter.all false
set_option maxHeartbeats 4000000
set_option maxRecDepth 100000
namespace Go.Proofs.YtghppnklhbbffaaGreatDoor.X
open Go Go.RowKit Go.MapKept Go.Proofs.YtghppnklhbbffaaGreatDoor.TL Go.Proofs.YtghppnklhbbffaaGreatDoor.PFnTreeLevel Go.Proofs.YtghppnklhbbffaaGreatDoorW.PrintWords Go.Proofs.YtghppnklhbbffaaGreatDoorW.PrintMore
abbrev RT (w:World) [Bd] (e:Ending) (w':World):Prop:=e=.returned (.bool true)∧Ext w w'
theorem c85z [Bd] (x:S57) (w:World) (h:x.f0.size < 2^31∧x.f2.size < 2^31) (hB0:autoParam (Bd.B≤w.heap.size) sz0._auto_1):Calls Tryz.prog 85 #[.agg (SV.denL [] [sv x.f0,.si .u64 x.f1,sv x.f2]).toArray] w (RT w):=by
 refine gs (bs:=[]) [.agg [sv x.f0,.si .u64 x.f1,sv x.f2]] [] Tryz.func85 (sat0 w) fun hW=>?_
 refine gr1 200 ⟨[],0,[],[],0⟩ hW fun b w1 _ hK1 hW1=>?_
 have hs1:=hW1.sq [⟨57,[sv x.f0,.si .u64 x.f1,sv x.f2]⟩]
 refine go_lenT 9 (.tmp 4) x.f0 [⟨57,[sv x.f0,.si .u64 x.f1,sv x.f2]⟩] hW1 fun hV1=>?_
 refine gr0 (bs:=[b]) 200 ⟨[],1,[],[(6,false)],0⟩ hV1 (fun w2 hK2 hW2=>?_) [(decide ((x.f0.size:Int)>2147483647),false)] ⟨decide_eq_false (by omega),trivial⟩
 have hs2:=hW2.sq [⟨57,[sv x.f0,.si .u64 x.f1,sv x.f2]⟩]
 have hE2:Ext w w2:=hK1.trans hK2
 refine go_lenT 9 (.tmp 8) x.f2 [⟨57,[sv x.f0,.si .u64 x.f1,sv x.f2]⟩] hW2 fun hV2=>?_
 refine gr0 (bs:=[b]) 200 ⟨[],1,[],[(10,false)],0⟩ hV2 (fun w3 hK3 hW3=>?_) [(decide ((x.f2.size:Int)>2147483647),false)] ⟨decide_eq_false (by omega),trivial⟩
 have hs3:=hW3.sq [⟨57,[sv x.f0,.si .u64 x.f1,sv x.f2]⟩]
 have hE3:Ext w w3:=hE2.trans hK3
 exact gt (.bl true) hW3.sat ⟨rfl,hE3⟩
noncomputable def SZ35 (a:Addr) (n c:Nat):ST:=runS Tryz.prog ⟨[],0,[],[(7,false)],0⟩ 200 (startS Tryz.f35 [.sl a n c] [])
def TZ35 (a:Addr) (n c:Nat) (j:Int) (ys:Nat→Value):List SV:=mkT 18 [(8,.sl a n c),(9,.si .i64 n),(10,.si .i64 j)] ys
def JZ35 [Bd] (a:Addr) (n c:Nat) (w0:World) (m:Nat) (bs:List Nat) (T:List SV) (H:List SB) (w:World):Prop:=
 ∃ (j:Nat) (ys:Nat→Value),j≤n∧m+j=n∧bs=[]∧T=TZ35 a n c j ys∧H=[]∧Ext w0 w
theorem c35z [Bd] (A:Option Addr) (c:Nat) (xs:List S57) (w:World) (hr:Kd.C k57 w A xs.length xs) (hl:xs.length < 2^30) (hok: ∀ x∈xs,x.f0.size < 2^31∧x.f2.size < 2^31) (hB0:autoParam (Bd.B≤w.heap.size) sz0._auto_1):Calls Tryz.prog 35 #[.slice A xs.length c] w (RT w):=by
 generalize hn:xs.length=n at *
 cases A with
 |none=>
  obtain rfl:n=0:=Nat.eq_zero_of_not_pos fun h=>by obtain ⟨ad,e,_⟩:=hr.2.2 h;cases e
  refine gs (bs:=[]) [.oc (.slice none 0 c) rfl] [] Tryz.func35 (sat0 w) fun hW=>?_
  refine gr0 200 ⟨[],0,[],[],0⟩ hW fun w1 hK1 hW1=>?_
  refine go_lenS 53 57 (.tmp 5) none 0 c [] (by kernel_rfl) (by kernel_rfl) (by kernel_rfl) hW1 (by kernel_rfl) fun hV1=>?_
  refine gr0 (bs:=[]) 200 ⟨[],0,[],[(7,false)],0⟩ hV1 (fun w2 hK2 hW2=>?_) [(decide (((0:Nat):Int)>2147483647),false)] ⟨rfl,trivial⟩
  refine go_lenS 53 57 (.tmp 8) none 0 c [] (by kernel_rfl) (by kernel_rfl) (by kernel_rfl) hW2 (by kernel_rfl) fun hV2=>?_
  refine gr0 (bs:=[]) 200 ⟨[],0,[],[(11,false)],1⟩ hV2 (fun w3 hK3 hW3=>?_) [(decide ((0:Int) < ((0:Nat):Int)),false)] ⟨rfl,trivial⟩
  exact gt (.bl true) hW3.sat ⟨rfl,hK1.trans (hK2.trans hK3)⟩
 |some a=>
 refine gs (bs:=[]) [.sl a n c] [] Tryz.func35 (sat0 w) fun hW=>?_
 refine gr0 200 ⟨[],0,[],[(7,false)],0⟩ hW (fun w1 hK1 hW1=>?_) [(decide ((n:Int)>2147483647),false)] ⟨decide_eq_false (by omega),trivial⟩
 refine go_loop (s:=SZ35 a n c) (bs:=[]) (JZ35 a n c w) n (by kernel_rfl) hW1 (fun ys=>TZ35 a n c 0 ys) [] (by kernel_rfl) (by kernel_rfl) (fun ys=>⟨0,ys,by omega,by omega,rfl,rfl,rfl,hK1⟩) ?_ ?_
 ·rintro m bs' T H w' ⟨j,ys,_,_,rfl,_⟩
  exact ⟨[],rfl⟩
 ·rintro m bs' T H w' ⟨j,ys,hj,hm,rfl,rfl,rfl,hX⟩ hW'
  by_cases hlt:j < n
  ·refine gr0 (s:=bodyS (SZ35 a n c) (Hand (JZ35 a n c w) m) (TZ35 a n c j ys) []) (bs:=[]) 200 ⟨[],0,[],[(11,true)],0⟩ hW' (fun v1 hG1 hV1=>?_) [(decide ((j:Int) < n),true),(decide ((0:Int)≤j),true),(decide ((j:Int) < n),true)] ⟨by simpa using hlt,by simp,by simpa using hlt,trivial⟩
   obtain ⟨ad,cs,e1,_,hK,hcell⟩:=ReadsRow.get_ (Kd.C_below hr (Ext.below (hX.trans hG1))) z57 (j:Int) (by omega) (by omega)
   cases e1
   have hx:xs.getD (j:Int).toNat z57∈xs:=by rw [Int.toNat_natCast,List.getD_eq_getElem?_getD,List.getElem?_eq_getElem (by omega)];exact List.getElem_mem _
   generalize xs.getD (j:Int).toNat z57=x at hK hx
   obtain rfl:=k57_open hK
   refine go_loadA 57 (.tmp 12) (a.add ((j:Int).toNat*3)) [sv x.f0,.si .u64 x.f1,sv x.f2] [] (by kernel_rfl) (by kernel_rfl) (by kernel_rfl) (by kernel_rfl) hV1 (by kernel_rfl) (fun i y hy=>by rw [Addr.add_add];exact hcell i _ (denL_getS (bs:=[]) hy)) (fun hV2=>?_)
   refine gr1 (bs:=[]) 200 ⟨[],0,[],[],0⟩ hV2 fun xb v3 _ hG3 hV3=>?_
   have hs3:=hV3.sq [⟨57,[sv x.f0,.si .u64 x.f1,sv x.f2]⟩]
   have hX3:Ext w v3:=hX.trans (hG1.trans hG3)
   refine gc 85 [.agg [sv x.f0,.si .u64 x.f1,sv x.f2]] hV3 ?_
   refine (c85z x v3 (hok x hx)).mono ?_
   rintro e v4 ⟨rfl,hG4⟩
   refine ⟨.bl true,[],_,rfl,hs3.kq hG4,fun hV4=>?_⟩
   refine gr0 (bs:=[xb]) 200 ⟨[],1,[],[],0⟩ hV4 fun v5 hG5 hV5=>?_
   refine go_fin (Hand (JZ35 a n c w) m) (by kernel_rfl) (fun ys=>TZ35 a n c (IntKind.i64.wrap ((j:Int)+1)) ys) (by kernel_rfl) (fun ys=>?_)
   rw [wrap_succ j (by omega)]
   exact ⟨m - 1,by omega,[],TZ35 a n c ((j+1:Nat):Int) ys,[],actS_cut [] [xb] _ (by kernel_rfl),sat0 v5 hV5.sz,j+1,ys,by omega,by omega,rfl,rfl,rfl,hX3.trans (hG4.trans hG5)⟩
  ·obtain rfl:n=j:=by omega
   refine gr0 (s:=bodyS (SZ35 a n c) (Hand (JZ35 a n c w) m) (TZ35 a n c n ys) []) (bs:=[]) 200 ⟨[],0,[],[(11,false)],0⟩ hW' (fun v1 hG1 hV1=>?_) [(decide ((n:Int) < n),false)] ⟨by simp,trivial⟩
   exact gt (.bl true) hV1.sat ⟨rfl,hX.trans hG1⟩
theorem c141z [Bd] (x:S335) (w:World) (h:x.f1.size < 2^31∧x.f2.size < 2^31) (hB0:autoParam (Bd.B≤w.heap.size) sz0._auto_1):Calls Tryz.prog 141 #[.agg (SV.denL [] [.si .u64 x.f0,sv x.f1,sv x.f2]).toArray] w (RT w):=by
 refine gs (bs:=[]) [.agg [.si .u64 x.f0,sv x.f1,sv x.f2]] [] Tryz.func141 (sat0 w) fun hW=>?_
 refine gr1 200 ⟨[],0,[],[],0⟩ hW fun b w1 _ hK1 hW1=>?_
 have hs1:=hW1.sq [⟨335,[.si .u64 x.f0,sv x.f1,sv x.f2]⟩]
 refine go_lenT 9 (.tmp 4) x.f1 [⟨335,[.si .u64 x.f0,sv x.f1,sv x.f2]⟩] hW1 fun hV1=>?_
 refine gr0 (bs:=[b]) 200 ⟨[],1,[],[(6,false)],0⟩ hV1 (fun w2 hK2 hW2=>?_) [(decide ((x.f1.size:Int)>2147483647),false)] ⟨decide_eq_false (by omega),trivial⟩
 have hs2:=hW2.sq [⟨335,[.si .u64 x.f0,sv x.f1,sv x.f2]⟩]
 have hE2:Ext w w2:=hK1.trans hK2
 refine go_lenT 9 (.tmp 8) x.f2 [⟨335,[.si .u64 x.f0,sv x.f1,sv x.f2]⟩] hW2 fun hV2=>?_
 refine gr0 (bs:=[b]) 200 ⟨[],1,[],[(10,false)],0⟩ hV2 (fun w3 hK3 hW3=>?_) [(decide ((x.f2.size:Int)>2147483647),false)] ⟨decide_eq_false (by omega),trivial⟩
 have hs3:=hW3.sq [⟨335,[.si .u64 x.f0,sv x.f1,sv x.f2]⟩]
 have hE3:Ext w w3:=hE2.trans hK3
 exact gt (.bl true) hW3.sat ⟨rfl,hE3⟩
noncomputable def SZ117 (a:Addr) (n c:Nat):ST:=runS Tryz.prog ⟨[],0,[],[(7,false)],0⟩ 200 (startS Tryz.f117 [.sl a n c] [])
def TZ117 (a:Addr) (n c:Nat) (j:Int) (ys:Nat→Value):List SV:=mkT 18 [(8,.sl a n c),(9,.si .i64 n),(10,.si .i64 j)] ys
def JZ117 [Bd] (a:Addr) (n c:Nat) (w0:World) (m:Nat) (bs:List Nat) (T:List SV) (H:List SB) (w:World):Prop:=
 ∃ (j:Nat) (ys:Nat→Value),j≤n∧m+j=n∧bs=[]∧T=TZ117 a n c j ys∧H=[]∧Ext w0 w
theorem c117z [Bd] (A:Option Addr) (c:Nat) (xs:List S335) (w:World) (hr:Kd.C k335 w A xs.length xs) (hl:xs.length < 2^30) (hok: ∀ x∈xs,x.f1.size < 2^31∧x.f2.size < 2^31) (hB0:autoParam (Bd.B≤w.heap.size) sz0._auto_1):Calls Tryz.prog 117 #[.slice A xs.length c] w (RT w):=by
 generalize hn:xs.length=n at *
 cases A with
 |none=>
  obtain rfl:n=0:=Nat.eq_zero_of_not_pos fun h=>by obtain ⟨ad,e,_⟩:=hr.2.2 h;cases e
  refine gs (bs:=[]) [.oc (.slice none 0 c) rfl] [] Tryz.func117 (sat0 w) fun hW=>?_
  refine gr0 200 ⟨[],0,[],[],0⟩ hW fun w1 hK1 hW1=>?_
  refine go_lenS 251 335 (.tmp 5) none 0 c [] (by kernel_rfl) (by kernel_rfl) (by kernel_rfl) hW1 (by kernel_rfl) fun hV1=>?_
  refine gr0 (bs:=[]) 200 ⟨[],0,[],[(7,false)],0⟩ hV1 (fun w2 hK2 hW2=>?_) [(decide (((0:Nat):Int)>2147483647),false)] ⟨rfl,trivial⟩
  refine go_lenS 251 335 (.tmp 8) none 0 c [] (by kernel_rfl) (by kernel_rfl) (by kernel_rfl) hW2 (by kernel_rfl) fun hV2=>?_
  refine gr0 (bs:=[]) 200 ⟨[],0,[],[(11,false)],1⟩ hV2 (fun w3 hK3 hW3=>?_) [(decide ((0:Int) < ((0:Nat):Int)),false)] ⟨rfl,trivial⟩
  exact gt (.bl true) hW3.sat ⟨rfl,hK1.trans (hK2.trans hK3)⟩
 |some a=>
 refine gs (bs:=[]) [.sl a n c] [] Tryz.func117 (sat0 w) fun hW=>?_
 refine gr0 200 ⟨[],0,[],[(7,false)],0⟩ hW (fun w1 hK1 hW1=>?_) [(decide ((n:Int)>2147483647),false)] ⟨decide_eq_false (by omega),trivial⟩
 refine go_loop (s:=SZ117 a n c) (bs:=[]) (JZ117 a n c w) n (by kernel_rfl) hW1 (fun ys=>TZ117 a n c 0 ys) [] (by kernel_rfl) (by kernel_rfl) (fun ys=>⟨0,ys,by omega,by omega,rfl,rfl,rfl,hK1⟩) ?_ ?_
 ·rintro m bs' T H w' ⟨j,ys,_,_,rfl,_⟩
  exact ⟨[],rfl⟩
 ·rintro m bs' T H w' ⟨j,ys,hj,hm,rfl,rfl,rfl,hX⟩ hW'
  by_cases hlt:j < n
  ·refine gr0 (s:=bodyS (SZ117 a n c) (Hand (JZ117 a n c w) m) (TZ117 a n c j ys) []) (bs:=[]) 200 ⟨[],0,[],[(11,true)],0⟩ hW' (fun v1 hG1 hV1=>?_) [(decide ((j:Int) < n),true),(decide ((0:Int)≤j),true),(decide ((j:Int) < n),true)] ⟨by simpa using hlt,by simp,by simpa using hlt,trivial⟩
   obtain ⟨ad,cs,e1,_,hK,hcell⟩:=ReadsRow.get_ (Kd.C_below hr (Ext.below (hX.trans hG1))) z335 (j:Int) (by omega) (by omega)
   cases e1
   have hx:xs.getD (j:Int).toNat z335∈xs:=by rw [Int.toNat_natCast,List.getD_eq_getElem?_getD,List.getElem?_eq_getElem (by omega)];exact List.getElem_mem _
   generalize xs.getD (j:Int).toNat z335=x at hK hx
   obtain rfl:=k335_open hK
   refine go_loadA 335 (.tmp 12) (a.add ((j:Int).toNat*3)) [.si .u64 x.f0,sv x.f1,sv x.f2] [] (by kernel_rfl) (by kernel_rfl) (by kernel_rfl) (by kernel_rfl) hV1 (by kernel_rfl) (fun i y hy=>by rw [Addr.add_add];exact hcell i _ (denL_getS (bs:=[]) hy)) (fun hV2=>?_)
   refine gr1 (bs:=[]) 200 ⟨[],0,[],[],0⟩ hV2 fun xb v3 _ hG3 hV3=>?_
   have hs3:=hV3.sq [⟨335,[.si .u64 x.f0,sv x.f1,sv x.f2]⟩]
   have hX3:Ext w v3:=hX.trans (hG1.trans hG3)
   refine gc 141 [.agg [.si .u64 x.f0,sv x.f1,sv x.f2]] hV3 ?_
   refine (c141z x v3 (hok x hx)).mono ?_
   rintro e v4 ⟨rfl,hG4⟩
   refine ⟨.bl true,[],_,rfl,hs3.kq hG4,fun hV4=>?_⟩
   refine gr0 (bs:=[xb]) 200 ⟨[],1,[],[],0⟩ hV4 fun v5 hG5 hV5=>?_
   refine go_fin (Hand (JZ117 a n c w) m) (by kernel_rfl) (fun ys=>TZ117 a n c (IntKind.i64.wrap ((j:Int)+1)) ys) (by kernel_rfl) (fun ys=>?_)
   rw [wrap_succ j (by omega)]
   exact ⟨m - 1,by omega,[],TZ117 a n c ((j+1:Nat):Int) ys,[],actS_cut [] [xb] _ (by kernel_rfl),sat0 v5 hV5.sz,j+1,ys,by omega,by omega,rfl,rfl,rfl,hX3.trans (hG4.trans hG5)⟩
  ·obtain rfl:n=j:=by omega
   refine gr0 (s:=bodyS (SZ117 a n c) (Hand (JZ117 a n c w) m) (TZ117 a n c n ys) []) (bs:=[]) 200 ⟨[],0,[],[(11,false)],0⟩ hW' (fun v1 hG1 hV1=>?_) [(decide ((n:Int) < n),false)] ⟨by simp,trivial⟩
   exact gt (.bl true) hV1.sat ⟨rfl,hX.trans hG1⟩
theorem c86z [Bd] (x:S253) (A:Option Addr) (c:Nat) (w:World) (hr:Kd.C k335 w A x.f2.length x.f2) (h:x.f0.size < 2^31∧x.f1.size < 2^31∧x.f2.length < 2^30∧ ∀ y∈x.f2,y.f1.size < 2^31∧y.f2.size < 2^31) (hB0:autoParam (Bd.B≤w.heap.size) sz0._auto_1):Calls Tryz.prog 86 #[.agg (SV.denL [] [sv x.f0,sv x.f1,.oc (.slice A x.f2.length c) rfl]).toArray] w (RT w):=by
 refine gs (bs:=[]) [.agg [sv x.f0,sv x.f1,.oc (.slice A x.f2.length c) rfl]] [] Tryz.func86 (sat0 w) fun hW=>?_
 refine gr1 200 ⟨[],0,[],[],0⟩ hW fun b w1 _ hK1 hW1=>?_
 have hs1:=hW1.sq [⟨253,[sv x.f0,sv x.f1,.oc (.slice A x.f2.length c) rfl]⟩]
 refine go_lenT 9 (.tmp 4) x.f0 [⟨253,[sv x.f0,sv x.f1,.oc (.slice A x.f2.length c) rfl]⟩] hW1 fun hV1=>?_
 refine gr0 (bs:=[b]) 200 ⟨[],1,[],[(6,false)],0⟩ hV1 (fun w2 hK2 hW2=>?_) [(decide ((x.f0.size:Int)>2147483647),false)] ⟨decide_eq_false (by omega),trivial⟩
 have hs2:=hW2.sq [⟨253,[sv x.f0,sv x.f1,.oc (.slice A x.f2.length c) rfl]⟩]
 have hE2:Ext w w2:=hK1.trans hK2
 refine go_lenT 9 (.tmp 8) x.f1 [⟨253,[sv x.f0,sv x.f1,.oc (.slice A x.f2.length c) rfl]⟩] hW2 fun hV2=>?_
 refine gr0 (bs:=[b]) 200 ⟨[],1,[],[(10,false)],0⟩ hV2 (fun w3 hK3 hW3=>?_) [(decide ((x.f1.size:Int)>2147483647),false)] ⟨decide_eq_false (by omega),trivial⟩
 have hs3:=hW3.sq [⟨253,[sv x.f0,sv x.f1,.oc (.slice A x.f2.length c) rfl]⟩]
 have hE3:Ext w w3:=hE2.trans hK3
 refine gc 117 [.oc (.slice A x.f2.length c) rfl] hW3 ?_
 refine (c117z A c x.f2 w3 (Kd.C_below hr (Ext.below hE3)) h.2.2.1 h.2.2.2).mono ?_
 rintro e v3 ⟨rfl,hX3⟩
 refine ⟨.bl true,[],_,rfl,hs3.kq hX3,fun hV3=>?_⟩
 refine gr0 (bs:=[b]) 200 ⟨[],1,[],[],0⟩ hV3 fun w4 hK4 hW4=>?_
 have hs4:=hW4.sq [⟨253,[sv x.f0,sv x.f1,.oc (.slice A x.f2.length c) rfl]⟩]
 have hE4:Ext w w4:=hE3.trans (hX3.trans hK4)
 exact gt (.bl true) hW4.sat ⟨rfl,hE4⟩
noncomputable def SZ36 (a:Addr) (n c:Nat):ST:=runS Tryz.prog ⟨[],0,[],[(7,false)],0⟩ 200 (startS Tryz.f36 [.sl a n c] [])
def TZ36 (a:Addr) (n c:Nat) (j:Int) (ys:Nat→Value):List SV:=mkT 18 [(8,.sl a n c),(9,.si .i64 n),(10,.si .i64 j)] ys
def JZ36 [Bd] (a:Addr) (n c:Nat) (w0:World) (m:Nat) (bs:List Nat) (T:List SV) (H:List SB) (w:World):Prop:=
 ∃ (j:Nat) (ys:Nat→Value),j≤n∧m+j=n∧bs=[]∧T=TZ36 a n c j ys∧H=[]∧Ext w0 w
theorem c36z [Bd] (A:Option Addr) (c:Nat) (xs:List S253) (w:World) (hr:Kd.C k253 w A xs.length xs) (hl:xs.length < 2^30) (hok: ∀ x∈xs,x.f0.size < 2^31∧x.f1.size < 2^31∧x.f2.length < 2^30∧ ∀ y∈x.f2,y.f1.size < 2^31∧y.f2.size < 2^31) (hB0:autoParam (Bd.B≤w.heap.size) sz0._auto_1):Calls Tryz.prog 36 #[.slice A xs.length c] w (RT w):=by
 generalize hn:xs.length=n at *
 cases A with
 |none=>
  obtain rfl:n=0:=Nat.eq_zero_of_not_pos fun h=>by obtain ⟨ad,e,_⟩:=hr.2.2 h;cases e
  refine gs (bs:=[]) [.oc (.slice none 0 c) rfl] [] Tryz.func36 (sat0 w) fun hW=>?_
  refine gr0 200 ⟨[],0,[],[],0⟩ hW fun w1 hK1 hW1=>?_
  refine go_lenS 54 253 (.tmp 5) none 0 c [] (by kernel_rfl) (by kernel_rfl) (by kernel_rfl) hW1 (by kernel_rfl) fun hV1=>?_
  refine gr0 (bs:=[]) 200 ⟨[],0,[],[(7,false)],0⟩ hV1 (fun w2 hK2 hW2=>?_) [(decide (((0:Nat):Int)>2147483647),false)] ⟨rfl,trivial⟩
  refine go_lenS 54 253 (.tmp 8) none 0 c [] (by kernel_rfl) (by kernel_rfl) (by kernel_rfl) hW2 (by kernel_rfl) fun hV2=>?_
  refine gr0 (bs:=[]) 200 ⟨[],0,[],[(11,false)],1⟩ hV2 (fun w3 hK3 hW3=>?_) [(decide ((0:Int) < ((0:Nat):Int)),false)] ⟨rfl,trivial⟩
  exact gt (.bl true) hW3.sat ⟨rfl,hK1.trans (hK2.trans hK3)⟩
 |some a=>
 refine gs (bs:=[]) [.sl a n c] [] Tryz.func36 (sat0 w) fun hW=>?_
 refine gr0 200 ⟨[],0,[],[(7,false)],0⟩ hW (fun w1 hK1 hW1=>?_) [(decide ((n:Int)>2147483647),false)] ⟨decide_eq_false (by omega),trivial⟩
 refine go_loop (s:=SZ36 a n c) (bs:=[]) (JZ36 a n c w) n (by kernel_rfl) hW1 (fun ys=>TZ36 a n c 0 ys) [] (by kernel_rfl) (by kernel_rfl) (fun ys=>⟨0,ys,by omega,by omega,rfl,rfl,rfl,hK1⟩) ?_ ?_
 ·rintro m bs' T H w' ⟨j,ys,_,_,rfl,_⟩
  exact ⟨[],rfl⟩
 ·rintro m bs' T H w' ⟨j,ys,hj,hm,rfl,rfl,rfl,hX⟩ hW'
  by_cases hlt:j < n
  ·refine gr0 (s:=bodyS (SZ36 a n c) (Hand (JZ36 a n c w) m) (TZ36 a n c j ys) []) (bs:=[]) 200 ⟨[],0,[],[(11,true)],0⟩ hW' (fun v1 hG1 hV1=>?_) [(decide ((j:Int) < n),true),(decide ((0:Int)≤j),true),(decide ((j:Int) < n),true)] ⟨by simpa using hlt,by simp,by simpa using hlt,trivial⟩
   obtain ⟨ad,cs,e1,_,hK,hcell⟩:=ReadsRow.get_ (Kd.C_below hr (Ext.below (hX.trans hG1))) z253 (j:Int) (by omega) (by omega)
   cases e1
   have hx:xs.getD (j:Int).toNat z253∈xs:=by rw [Int.toNat_natCast,List.getD_eq_getElem?_getD,List.getElem?_eq_getElem (by omega)];exact List.getElem_mem _
   generalize xs.getD (j:Int).toNat z253=x at hK hx
   obtain ⟨A2,c2,rfl,_,g2⟩:=k253_open hK
   refine go_loadA 253 (.tmp 12) (a.add ((j:Int).toNat*3)) [sv x.f0,sv x.f1,.oc (.slice A2 x.f2.length c2) rfl] [] (by kernel_rfl) (by kernel_rfl) (by kernel_rfl) (by kernel_rfl) hV1 (by kernel_rfl) (fun i y hy=>by rw [Addr.add_add];exact hcell i _ (denL_getS (bs:=[]) hy)) (fun hV2=>?_)
   refine gr1 (bs:=[]) 200 ⟨[],0,[],[],0⟩ hV2 fun xb v3 _ hG3 hV3=>?_
   have hs3:=hV3.sq [⟨253,[sv x.f0,sv x.f1,.oc (.slice A2 x.f2.length c2) rfl]⟩]
   have hX3:Ext w v3:=hX.trans (hG1.trans hG3)
   refine gc 86 [.agg [sv x.f0,sv x.f1,.oc (.slice A2 x.f2.length c2) rfl]] hV3 ?_
   refine (c86z x A2 c2 v3 (Kd.C_below g2 (Ext.below hG3)) (hok x hx)).mono ?_
   rintro e v4 ⟨rfl,hG4⟩
   refine ⟨.bl true,[],_,rfl,hs3.kq hG4,fun hV4=>?_⟩
   refine gr0 (bs:=[xb]) 200 ⟨[],1,[],[],0⟩ hV4 fun v5 hG5 hV5=>?_
   refine go_fin (Hand (JZ36 a n c w) m) (by kernel_rfl) (fun ys=>TZ36 a n c (IntKind.i64.wrap ((j:Int)+1)) ys) (by kernel_rfl) (fun ys=>?_)
   rw [wrap_succ j (by omega)]
   exact ⟨m - 1,by omega,[],TZ36 a n c ((j+1:Nat):Int) ys,[],actS_cut [] [xb] _ (by kernel_rfl),sat0 v5 hV5.sz,j+1,ys,by omega,by omega,rfl,rfl,rfl,hX3.trans (hG4.trans hG5)⟩
  ·obtain rfl:n=j:=by omega
   refine gr0 (s:=bodyS (SZ36 a n c) (Hand (JZ36 a n c w) m) (TZ36 a n c n ys) []) (bs:=[]) 200 ⟨[],0,[],[(11,false)],0⟩ hW' (fun v1 hG1 hV1=>?_) [(decide ((n:Int) < n),false)] ⟨by simp,trivial⟩
   exact gt (.bl true) hV1.sat ⟨rfl,hX.trans hG1⟩
theorem c17z [Bd] (x:S56) (A B:Option Addr) (c d:Nat) (w:World) (hr:Kd.C k57 w A x.f1.length x.f1) (hr2:Kd.C k253 w B x.f2.length x.f2) (h:(x.f1.length < 2^30∧ ∀ y∈x.f1,y.f0.size < 2^31∧y.f2.size < 2^31)∧x.f2.length < 2^30∧ ∀ y∈x.f2,y.f0.size < 2^31∧y.f1.size < 2^31∧y.f2.length < 2^30∧ ∀ z∈y.f2,z.f1.size < 2^31∧z.f2.size < 2^31) (hB0:autoParam (Bd.B≤w.heap.size) sz0._auto_1):Calls Tryz.prog 17 #[.agg (SV.denL [] [.si .u64 x.f0,.oc (.slice A x.f1.length c) rfl,.oc (.slice B x.f2.length d) rfl]).toArray] w (RT w):=by
 refine gs (bs:=[]) [.agg [.si .u64 x.f0,.oc (.slice A x.f1.length c) rfl,.oc (.slice B x.f2.length d) rfl]] [] Tryz.func17 (sat0 w) fun hW=>?_
 refine gr1 200 ⟨[],0,[],[],0⟩ hW fun b w1 _ hK1 hW1=>?_
 have hs1:=hW1.sq [⟨56,[.si .u64 x.f0,.oc (.slice A x.f1.length c) rfl,.oc (.slice B x.f2.length d) rfl]⟩]
 refine gc 35 [.oc (.slice A x.f1.length c) rfl] hW1 ?_
 refine (c35z A c x.f1 w1 (Kd.C_below hr (Ext.below hK1)) h.1.1 h.1.2).mono ?_
 rintro e v1 ⟨rfl,hX1⟩
 refine ⟨.bl true,[],_,rfl,hs1.kq hX1,fun hV1=>?_⟩
 refine gr0 (bs:=[b]) 200 ⟨[],1,[],[],0⟩ hV1 fun w2 hK2 hW2=>?_
 have hs2:=hW2.sq [⟨56,[.si .u64 x.f0,.oc (.slice A x.f1.length c) rfl,.oc (.slice B x.f2.length d) rfl]⟩]
 have hE2:Ext w w2:=hK1.trans (hX1.trans hK2)
 refine gc 36 [.oc (.slice B x.f2.length d) rfl] hW2 ?_
 refine (c36z B d x.f2 w2 (Kd.C_below hr2 (Ext.below hE2)) h.2.1 h.2.2).mono ?_
 rintro e v2 ⟨rfl,hX2⟩
 refine ⟨.bl true,[],_,rfl,hs2.kq hX2,fun hV2=>?_⟩
 refine gr0 (bs:=[b]) 200 ⟨[],1,[],[],0⟩ hV2 fun w3 hK3 hW3=>?_
 have hs3:=hW3.sq [⟨56,[.si .u64 x.f0,.oc (.slice A x.f1.length c) rfl,.oc (.slice B x.f2.length d) rfl]⟩]
 have hE3:Ext w w3:=hE2.trans (hX2.trans hK3)
 exact gt (.bl true) hW3.sat ⟨rfl,hE3⟩
noncomputable def SZ4 (a:Addr) (n c:Nat):ST:=runS Tryz.prog ⟨[],0,[],[(7,false)],0⟩ 200 (startS Tryz.f4 [.sl a n c] [])
def TZ4 (a:Addr) (n c:Nat) (j:Int) (ys:Nat→Value):List SV:=mkT 18 [(8,.sl a n c),(9,.si .i64 n),(10,.si .i64 j)] ys
def JZ4 [Bd] (a:Addr) (n c:Nat) (w0:World) (m:Nat) (bs:List Nat) (T:List SV) (H:List SB) (w:World):Prop:=
 ∃ (j:Nat) (ys:Nat→Value),j≤n∧m+j=n∧bs=[]∧T=TZ4 a n c j ys∧H=[]∧Ext w0 w
theorem c4Z [Bd] (A:Option Addr) (c:Nat) (xs:List S56) (w:World) (hr:Kd.C k56 w A xs.length xs) (hl:xs.length < 2^30) (hok: ∀ x∈xs,(x.f1.length < 2^30∧ ∀ y∈x.f1,y.f0.size < 2^31∧y.f2.size < 2^31)∧x.f2.length < 2^30∧ ∀ y∈x.f2,y.f0.size < 2^31∧y.f1.size < 2^31∧y.f2.length < 2^30∧ ∀ z∈y.f2,z.f1.size < 2^31∧z.f2.size < 2^31) (hB0:autoParam (Bd.B≤w.heap.size) sz0._auto_1):Calls Tryz.prog 4 #[.slice A xs.length c] w (RT w):=by
 generalize hn:xs.length=n at *
 cases A with
 |none=>
  obtain rfl:n=0:=Nat.eq_zero_of_not_pos fun h=>by obtain ⟨ad,e,_⟩:=hr.2.2 h;cases e
  refine gs (bs:=[]) [.oc (.slice none 0 c) rfl] [] Tryz.func4 (sat0 w) fun hW=>?_
  refine gr0 200 ⟨[],0,[],[],0⟩ hW fun w1 hK1 hW1=>?_
  refine go_lenS 22 56 (.tmp 5) none 0 c [] (by kernel_rfl) (by kernel_rfl) (by kernel_rfl) hW1 (by kernel_rfl) fun hV1=>?_
  refine gr0 (bs:=[]) 200 ⟨[],0,[],[(7,false)],0⟩ hV1 (fun w2 hK2 hW2=>?_) [(decide (((0:Nat):Int)>2147483647),false)] ⟨rfl,trivial⟩
  refine go_lenS 22 56 (.tmp 8) none 0 c [] (by kernel_rfl) (by kernel_rfl) (by kernel_rfl) hW2 (by kernel_rfl) fun hV2=>?_
  refine gr0 (bs:=[]) 200 ⟨[],0,[],[(11,false)],1⟩ hV2 (fun w3 hK3 hW3=>?_) [(decide ((0:Int) < ((0:Nat):Int)),false)] ⟨rfl,trivial⟩
  exact gt (.bl true) hW3.sat ⟨rfl,hK1.trans (hK2.trans hK3)⟩
 |some a=>
 refine gs (bs:=[]) [.sl a n c] [] Tryz.func4 (sat0 w) fun hW=>?_
 refine gr0 200 ⟨[],0,[],[(7,false)],0⟩ hW (fun w1 hK1 hW1=>?_) [(decide ((n:Int)>2147483647),false)] ⟨decide_eq_false (by omega),trivial⟩
 refine go_loop (s:=SZ4 a n c) (bs:=[]) (JZ4 a n c w) n (by kernel_rfl) hW1 (fun ys=>TZ4 a n c 0 ys) [] (by kernel_rfl) (by kernel_rfl) (fun ys=>⟨0,ys,by omega,by omega,rfl,rfl,rfl,hK1⟩) ?_ ?_
 ·rintro m bs' T H w' ⟨j,ys,_,_,rfl,_⟩
  exact ⟨[],rfl⟩
 ·rintro m bs' T H w' ⟨j,ys,hj,hm,rfl,rfl,rfl,hX⟩ hW'
  by_cases hlt:j < n
  ·refine gr0 (s:=bodyS (SZ4 a n c) (Hand (JZ4 a n c w) m) (TZ4 a n c j ys) []) (bs:=[]) 200 ⟨[],0,[],[(11,true)],0⟩ hW' (fun v1 hG1 hV1=>?_) [(decide ((j:Int) < n),true),(decide ((0:Int)≤j),true),(decide ((j:Int) < n),true)] ⟨by simpa using hlt,by simp,by simpa using hlt,trivial⟩
   obtain ⟨ad,cs,e1,_,hK,hcell⟩:=ReadsRow.get_ (Kd.C_below hr (Ext.below (hX.trans hG1))) z56 (j:Int) (by omega) (by omega)
   cases e1
   have hx:xs.getD (j:Int).toNat z56∈xs:=by rw [Int.toNat_natCast,List.getD_eq_getElem?_getD,List.getElem?_eq_getElem (by omega)];exact List.getElem_mem _
   generalize xs.getD (j:Int).toNat z56=x at hK hx
   obtain ⟨A1,c1,A2,c2,rfl,_,g1,_,g2⟩:=k56_open hK
   refine go_loadA 56 (.tmp 12) (a.add ((j:Int).toNat*3)) [.si .u64 x.f0,.oc (.slice A1 x.f1.length c1) rfl,.oc (.slice A2 x.f2.length c2) rfl] [] (by kernel_rfl) (by kernel_rfl) (by kernel_rfl) (by kernel_rfl) hV1 (by kernel_rfl) (fun i y hy=>by rw [Addr.add_add];exact hcell i _ (denL_getS (bs:=[]) hy)) (fun hV2=>?_)
   refine gr1 (bs:=[]) 200 ⟨[],0,[],[],0⟩ hV2 fun xb v3 _ hG3 hV3=>?_
   have hs3:=hV3.sq [⟨56,[.si .u64 x.f0,.oc (.slice A1 x.f1.length c1) rfl,.oc (.slice A2 x.f2.length c2) rfl]⟩]
   have hX3:Ext w v3:=hX.trans (hG1.trans hG3)
   refine gc 17 [.agg [.si .u64 x.f0,.oc (.slice A1 x.f1.length c1) rfl,.oc (.slice A2 x.f2.length c2) rfl]] hV3 ?_
   refine (c17z x A1 A2 c1 c2 v3 (Kd.C_below g1 (Ext.below hG3)) (Kd.C_below g2 (Ext.below hG3)) (hok x hx)).mono ?_
   rintro e v4 ⟨rfl,hG4⟩
   refine ⟨.bl true,[],_,rfl,hs3.kq hG4,fun hV4=>?_⟩
   refine gr0 (bs:=[xb]) 200 ⟨[],1,[],[],0⟩ hV4 fun v5 hG5 hV5=>?_
   refine go_fin (Hand (JZ4 a n c w) m) (by kernel_rfl) (fun ys=>TZ4 a n c (IntKind.i64.wrap ((j:Int)+1)) ys) (by kernel_rfl) (fun ys=>?_)
   rw [wrap_succ j (by omega)]
   exact ⟨m - 1,by omega,[],TZ4 a n c ((j+1:Nat):Int) ys,[],actS_cut [] [xb] _ (by kernel_rfl),sat0 v5 hV5.sz,j+1,ys,by omega,by omega,rfl,rfl,rfl,hX3.trans (hG4.trans hG5)⟩
  ·obtain rfl:n=j:=by omega
   refine gr0 (s:=bodyS (SZ4 a n c) (Hand (JZ4 a n c w) m) (TZ4 a n c n ys) []) (bs:=[]) 200 ⟨[],0,[],[(11,false)],0⟩ hW' (fun v1 hG1 hV1=>?_) [(decide ((n:Int) < n),false)] ⟨by simp,trivial⟩
   exact gt (.bl true) hV1.sat ⟨rfl,hX.trans hG1⟩
theorem c18z [Bd] (x:S66) (w:World) (h:x.f1.size < 2^31) (hB0:autoParam (Bd.B≤w.heap.size) sz0._auto_1):Calls Tryz.prog 18 #[.agg (SV.denL [] [.si .u8 x.f0,sv x.f1]).toArray] w (RT w):=by
 refine gs (bs:=[]) [.agg [.si .u8 x.f0,sv x.f1]] [] Tryz.func18 (sat0 w) fun hW=>?_
 refine gr1 200 ⟨[],0,[],[],0⟩ hW fun b w1 _ hK1 hW1=>?_
 have hs1:=hW1.sq [⟨66,[.si .u8 x.f0,sv x.f1]⟩]
 refine go_lenT 9 (.tmp 4) x.f1 [⟨66,[.si .u8 x.f0,sv x.f1]⟩] hW1 fun hV1=>?_
 refine gr0 (bs:=[b]) 200 ⟨[],1,[],[(6,false)],0⟩ hV1 (fun w2 hK2 hW2=>?_) [(decide ((x.f1.size:Int)>2147483647),false)] ⟨decide_eq_false (by omega),trivial⟩
 have hs2:=hW2.sq [⟨66,[.si .u8 x.f0,sv x.f1]⟩]
 have hE2:Ext w w2:=hK1.trans hK2
 exact gt (.bl true) hW2.sat ⟨rfl,hE2⟩
noncomputable def SZ6 (a:Addr) (n c:Nat):ST:=runS Tryz.prog ⟨[],0,[],[(7,false)],0⟩ 200 (startS Tryz.f6 [.sl a n c] [])
def TZ6 (a:Addr) (n c:Nat) (j:Int) (ys:Nat→Value):List SV:=mkT 18 [(8,.sl a n c),(9,.si .i64 n),(10,.si .i64 j)] ys
def JZ6 [Bd] (a:Addr) (n c:Nat) (w0:World) (m:Nat) (bs:List Nat) (T:List SV) (H:List SB) (w:World):Prop:=
 ∃ (j:Nat) (ys:Nat→Value),j≤n∧m+j=n∧bs=[]∧T=TZ6 a n c j ys∧H=[]∧Ext w0 w
theorem c6Z [Bd] (A:Option Addr) (c:Nat) (xs:List S66) (w:World) (hr:Kd.C k66 w A xs.length xs) (hl:xs.length < 2^30) (hok: ∀ x∈xs,x.f1.size < 2^31) (hB0:autoParam (Bd.B≤w.heap.size) sz0._auto_1):Calls Tryz.prog 6 #[.slice A xs.length c] w (RT w):=by
 generalize hn:xs.length=n at *
 cases A with
 |none=>
  obtain rfl:n=0:=Nat.eq_zero_of_not_pos fun h=>by obtain ⟨ad,e,_⟩:=hr.2.2 h;cases e
  refine gs (bs:=[]) [.oc (.slice none 0 c) rfl] [] Tryz.func6 (sat0 w) fun hW=>?_
  refine gr0 200 ⟨[],0,[],[],0⟩ hW fun w1 hK1 hW1=>?_
  refine go_lenS 25 66 (.tmp 5) none 0 c [] (by kernel_rfl) (by kernel_rfl) (by kernel_rfl) hW1 (by kernel_rfl) fun hV1=>?_
  refine gr0 (bs:=[]) 200 ⟨[],0,[],[(7,false)],0⟩ hV1 (fun w2 hK2 hW2=>?_) [(decide (((0:Nat):Int)>2147483647),false)] ⟨rfl,trivial⟩
  refine go_lenS 25 66 (.tmp 8) none 0 c [] (by kernel_rfl) (by kernel_rfl) (by kernel_rfl) hW2 (by kernel_rfl) fun hV2=>?_
  refine gr0 (bs:=[]) 200 ⟨[],0,[],[(11,false)],1⟩ hV2 (fun w3 hK3 hW3=>?_) [(decide ((0:Int) < ((0:Nat):Int)),false)] ⟨rfl,trivial⟩
  exact gt (.bl true) hW3.sat ⟨rfl,hK1.trans (hK2.trans hK3)⟩
 |some a=>
 refine gs (bs:=[]) [.sl a n c] [] Tryz.func6 (sat0 w) fun hW=>?_
 refine gr0 200 ⟨[],0,[],[(7,false)],0⟩ hW (fun w1 hK1 hW1=>?_) [(decide ((n:Int)>2147483647),false)] ⟨decide_eq_false (by omega),trivial⟩
 refine go_loop (s:=SZ6 a n c) (bs:=[]) (JZ6 a n c w) n (by kernel_rfl) hW1 (fun ys=>TZ6 a n c 0 ys) [] (by kernel_rfl) (by kernel_rfl) (fun ys=>⟨0,ys,by omega,by omega,rfl,rfl,rfl,hK1⟩) ?_ ?_
 ·rintro m bs' T H w' ⟨j,ys,_,_,rfl,_⟩
  exact ⟨[],rfl⟩
 ·rintro m bs' T H w' ⟨j,ys,hj,hm,rfl,rfl,rfl,hX⟩ hW'
  by_cases hlt:j < n
  ·refine gr0 (s:=bodyS (SZ6 a n c) (Hand (JZ6 a n c w) m) (TZ6 a n c j ys) []) (bs:=[]) 200 ⟨[],0,[],[(11,true)],0⟩ hW' (fun v1 hG1 hV1=>?_) [(decide ((j:Int) < n),true),(decide ((0:Int)≤j),true),(decide ((j:Int) < n),true)] ⟨by simpa using hlt,by simp,by simpa using hlt,trivial⟩
   obtain ⟨ad,cs,e1,_,hK,hcell⟩:=ReadsRow.get_ (Kd.C_below hr (Ext.below (hX.trans hG1))) z66 (j:Int) (by omega) (by omega)
   cases e1
   have hx:xs.getD (j:Int).toNat z66∈xs:=by rw [Int.toNat_natCast,List.getD_eq_getElem?_getD,List.getElem?_eq_getElem (by omega)];exact List.getElem_mem _
   generalize xs.getD (j:Int).toNat z66=x at hK hx
   obtain rfl:=k66_open hK
   refine go_loadA 66 (.tmp 12) (a.add ((j:Int).toNat*2)) [.si .u8 x.f0,sv x.f1] [] (by kernel_rfl) (by kernel_rfl) (by kernel_rfl) (by kernel_rfl) hV1 (by kernel_rfl) (fun i y hy=>by rw [Addr.add_add];exact hcell i _ (denL_getS (bs:=[]) hy)) (fun hV2=>?_)
   refine gr1 (bs:=[]) 200 ⟨[],0,[],[],0⟩ hV2 fun xb v3 _ hG3 hV3=>?_
   have hs3:=hV3.sq [⟨66,[.si .u8 x.f0,sv x.f1]⟩]
   have hX3:Ext w v3:=hX.trans (hG1.trans hG3)
   refine gc 18 [.agg [.si .u8 x.f0,sv x.f1]] hV3 ?_
   refine (c18z x v3 (hok x hx)).mono ?_
   rintro e v4 ⟨rfl,hG4⟩
   refine ⟨.bl true,[],_,rfl,hs3.kq hG4,fun hV4=>?_⟩
   refine gr0 (bs:=[xb]) 200 ⟨[],1,[],[],0⟩ hV4 fun v5 hG5 hV5=>?_
   refine go_fin (Hand (JZ6 a n c w) m) (by kernel_rfl) (fun ys=>TZ6 a n c (IntKind.i64.wrap ((j:Int)+1)) ys) (by kernel_rfl) (fun ys=>?_)
   rw [wrap_succ j (by omega)]
   exact ⟨m - 1,by omega,[],TZ6 a n c ((j+1:Nat):Int) ys,[],actS_cut [] [xb] _ (by kernel_rfl),sat0 v5 hV5.sz,j+1,ys,by omega,by omega,rfl,rfl,rfl,hX3.trans (hG4.trans hG5)⟩
  ·obtain rfl:n=j:=by omega
   refine gr0 (s:=bodyS (SZ6 a n c) (Hand (JZ6 a n c w) m) (TZ6 a n c n ys) []) (bs:=[]) 200 ⟨[],0,[],[(11,false)],0⟩ hW' (fun v1 hG1 hV1=>?_) [(decide ((n:Int) < n),false)] ⟨by simp,trivial⟩
   exact gt (.bl true) hV1.sat ⟨rfl,hX.trans hG1⟩
theorem c5Z [Bd] (lo up:ByteArray) (hl hu:Bool) (w:World) (h:lo.size < 2^31∧up.size < 2^31) (hB0:autoParam (Bd.B≤w.heap.size) sz0._auto_1):Calls Tryz.prog 5 #[.agg (SV.denL [] [sv lo,.bl hl,sv up,.bl hu]).toArray] w (RT w):=by
 refine gs (bs:=[]) [.agg [sv lo,.bl hl,sv up,.bl hu]] [] Tryz.func5 (sat0 w) fun hW=>?_
 refine gr1 200 ⟨[],0,[],[],0⟩ hW fun b w1 _ hK1 hW1=>?_
 have hs1:=hW1.sq [⟨24,[sv lo,.bl hl,sv up,.bl hu]⟩]
 refine go_lenT 9 (.tmp 4) lo [⟨24,[sv lo,.bl hl,sv up,.bl hu]⟩] hW1 fun hV1=>?_
 refine gr0 (bs:=[b]) 200 ⟨[],1,[],[(6,false)],0⟩ hV1 (fun w2 hK2 hW2=>?_) [(decide ((lo.size:Int)>2147483647),false)] ⟨decide_eq_false (by omega),trivial⟩
 have hs2:=hW2.sq [⟨24,[sv lo,.bl hl,sv up,.bl hu]⟩]
 have hE2:Ext w w2:=hK1.trans hK2
 refine go_lenT 9 (.tmp 8) up [⟨24,[sv lo,.bl hl,sv up,.bl hu]⟩] hW2 fun hV2=>?_
 refine gr0 (bs:=[b]) 200 ⟨[],1,[],[(10,false)],0⟩ hV2 (fun w3 hK3 hW3=>?_) [(decide ((up.size:Int)>2147483647),false)] ⟨decide_eq_false (by omega),trivial⟩
 have hs3:=hW3.sq [⟨24,[sv lo,.bl hl,sv up,.bl hu]⟩]
 have hE3:Ext w w3:=hE2.trans hK3
 exact gt (.bl true) hW3.sat ⟨rfl,hE3⟩
def okT (x:S56):Prop:=(x.f1.length < 2^30∧ ∀ y∈x.f1,y.f0.size < 2^31∧y.f2.size < 2^31)∧x.f2.length < 2^30∧ ∀ y∈x.f2,y.f0.size < 2^31∧y.f1.size < 2^31∧y.f2.length < 2^30∧ ∀ z∈y.f2,z.f1.size < 2^31∧z.f2.size < 2^31
theorem c4 [Bd] (A:Option Addr) (c:Nat) (xs:List S56) (w:World) (hr:Kd.C k56 w A xs.length xs) (hl:xs.length < 2^30) (hS: ∀ x∈xs,okT x) (hB0:autoParam (Bd.B≤w.heap.size) sz0._auto_1):
  Calls Tryz.prog 4 #[.slice A xs.length c] w fun e w'=>(∃ b,e=.returned (.bool b))∧Ext w w':=(c4Z A c xs w hr hl hS).mono fun e w' h=>⟨⟨true,h.1⟩,h.2⟩
theorem c5 [Bd] (lo up:ByteArray) (hl hu:Bool) (w:World) (h:lo.size < 2^31∧up.size < 2^31) (hB0:autoParam (Bd.B≤w.heap.size) sz0._auto_1):Calls Tryz.prog 5 #[.agg #[.string lo,.bool hl,.string up,.bool hu]] w fun e w'=>(∃ b,e=.returned (.bool b))∧Ext w w':=(c5Z lo up hl hu w h).mono fun e w' h=>⟨⟨true,h.1⟩,h.2⟩
theorem c6 [Bd] (A:Option Addr) (c:Nat) (xs:List S66) (w:World) (hr:Kd.C k66 w A xs.length xs) (hl:xs.length < 2^30) (hS: ∀ x∈xs,x.f1.size < 2^31) (hB0:autoParam (Bd.B≤w.heap.size) sz0._auto_1):
  Calls Tryz.prog 6 #[.slice A xs.length c] w fun e w'=>(∃ b,e=.returned (.bool b))∧Ext w w':=(c6Z A c xs w hr hl hS).mono fun e w' h=>⟨⟨true,h.1⟩,h.2⟩
def insB (lo up:ByteArray) (hl hu:Bool) (u:ByteArray):Bool:=(!hl||decide (cmpB lo u≤0))&&(!hu||decide (cmpB u up < 0))
theorem c12 [Bd] (lo up:ByteArray) (hl hu:Bool) (u:ByteArray) (h1:lo.size≤140737488351232) (h2:u.size≤140737488351232) (w:World) (hB0:autoParam (Bd.B≤w.heap.size) sz0._auto_1):
  Calls Tryz.prog 12 #[.string u,.agg #[.string lo,.bool hl,.string up,.bool hu]] w fun e w'=>e=.returned (.bool (insB lo up hl hu u))∧Ext w w':=by
 have low: ∀ {xb:Nat} {S:ST} {v:World} {R:Ending→World→Prop},Wk [xb] S v→callF Tryz.prog S=some (29,[sv u,sv up])→vals [xb] S.H=vals [xb] [⟨24,[sv lo,.bl hl,sv up,.bl true]⟩]→Ext w v→(R=fun e w'=>e=.returned (.bool (decide (cmpB u up < 0)))∧Ext w w')→(∀ H,resS Tryz.prog Tryz.f12 (runS Tryz.prog ⟨[],1,[],[],0⟩ 200 (afterC S (.si .i64 (cmpB u up)) H))=some (.sb (decide (cmpB u up < 0)))∧retB (runS Tryz.prog ⟨[],1,[],[],0⟩ 200 (afterC S (.si .i64 (cmpB u up)) H))=true∧(runS Tryz.prog ⟨[],1,[],[],0⟩ 200 (afterC S (.si .i64 (cmpB u up)) H)).ob=[])→((runS Tryz.prog ⟨[],1,[],[],0⟩ 200 (afterC S (.si .i64 (cmpB u up)) [⟨24,[sv lo,.bl hl,sv up,.bl true]⟩])).H.length=1)→kx Tryz.prog (bodyPost Tryz.prog Tryz.f12 R) S.K .normal (actS [xb] S.T) v:=by
  rintro xb S v R hS hc hH hX rfl hf hn
  have hs:=hS.sq _ hH
  refine gc 29 [sv u,sv up] hS ?_ hc
  refine (c29 u up h2 v).mono ?_
  rintro e v2 ⟨rfl,hE⟩
  refine ⟨.si .i64 (cmpB u up),[],_,rfl,hs.kq hE,fun hW=>?_⟩
  refine gr0 (bs:=[xb]) 200 ⟨[],1,[],[],0⟩ hW (fun v3 hK hW3=>?_) [] trivial (by kernel_rfl) rfl (hf _).2.2 hn
  exact gt (.sb (decide (cmpB u up < 0))) hW3.sat ⟨rfl,hX.trans (hE.trans hK)⟩ (hf _).1 (hf _).2.1
 refine gs (bs:=[]) [sv u,.agg [sv lo,.bl hl,sv up,.bl hu]] [] Tryz.func12 (sat0 w) fun hW=>?_
 cases hl with
 |false=>
  cases hu with
  |false=>
   refine gr1 (bs:=[]) 200 ⟨[],0,[],[],0⟩ hW fun xb w1 _ hK1 hW1=>?_
   exact gt (.bl true) hW1.sat ⟨rfl,hK1⟩
  |true=>
   refine gr1 (bs:=[]) 200 ⟨[],0,[],[],0⟩ hW fun xb w1 _ hK1 hW1=>?_
   exact low hW1 (by kernel_rfl) (by kernel_rfl) hK1 (by simp [insB]) (fun _=>⟨by kernel_rfl,by kernel_rfl,by kernel_rfl⟩) (by kernel_rfl)
 |true=>
  refine gr1 (bs:=[]) 200 ⟨[],0,[],[],0⟩ hW fun xb w1 _ hK1 hW1=>?_
  have hs1:=hW1.sq [⟨24,[sv lo,.bl true,sv up,.bl hu]⟩]
  refine gc 29 [sv lo,sv u] hW1 ?_
  refine (c29 lo u h1 w1).mono ?_
  rintro e w2 ⟨rfl,hE2⟩
  refine ⟨.si .i64 (cmpB lo u),[],_,rfl,hs1.kq hE2,fun hW2=>?_⟩
  by_cases c:cmpB lo u≤0
  ·cases hu with
   |false=>
    refine gr0 (bs:=[xb]) 200 ⟨[],1,[],[(15,true)],0⟩ hW2 (fun w3 hK3 hW3=>?_) [(decide (cmpB lo u≤0),true)] ⟨decide_eq_true c,trivial⟩
    exact gt (.bl true) hW3.sat ⟨by simp [insB,c,SV.den],hK1.trans (hE2.trans hK3)⟩
   |true=>
    refine gr0 (bs:=[xb]) 200 ⟨[],1,[],[(15,true)],0⟩ hW2 (fun w3 hK3 hW3=>?_) [(decide (cmpB lo u≤0),true)] ⟨decide_eq_true c,trivial⟩
    exact low hW3 (by kernel_rfl) (by kernel_rfl) (hK1.trans (hE2.trans hK3)) (by simp [insB,c]) (fun _=>⟨by kernel_rfl,by kernel_rfl,by kernel_rfl⟩) (by kernel_rfl)
  ·refine gr0 (bs:=[xb]) 200 ⟨[],1,[],[(15,false)],0⟩ hW2 (fun w3 hK3 hW3=>?_) [(decide (cmpB lo u≤0),false)] ⟨decide_eq_false c,trivial⟩
   exact gt (.bl false) hW3.sat ⟨by simp [insB,c,SV.den],hK1.trans (hE2.trans hK3)⟩
theorem go_sne [Bd] {P:Program} {Q:Exit→Act→World→Prop} {bs:List Nat} {w:World} {s:ST} (x:Operand) (q:TypeId) (up:ByteArray) (H:List SB) (h:curOp s=some (.binOp .neq 9 x (.const (.string ⟨#[]⟩)) q)) (hx:(evS s.T x).den bs=.string up) (hs:Wk bs s w) (hH:s.H=H)
  (hk:Wk bs (afterC s (.sb (!(up.toList==[]))) H) w→kx P Q (afterC s (.sb (!(up.toList==[]))) H).K .normal (actS bs (afterC s (.sb (!(up.toList==[]))) H).T) w):kx P Q s.K .normal (actS bs s.T) w:=by
 refine go_op (.binOp .neq 9 x (.const (.string ⟨#[]⟩)) q) h hs w (.sb (!(up.toList==[]))) [] H (.value (.bool (!(up.toList==[])))) (fun o ho=>?_) (.inl (by simp only [SV.den])) (by rw [List.append_nil];exact hs.satE H hH) (fun hW=>?_)
 ·have e1:(actS bs s.T).eval x=.string up:=by rw [ev_den,hx]
  have e2:(actS bs s.T).eval (.const (.string ⟨#[]⟩))=.string ⟨#[]⟩:=rfl
  simp only [execOp,ho,e1,e2]
  simp [eqGuard,binOp,Op.stringOp,Result.andThen]
 ·rw [List.append_nil] at hW ⊢
  exact hk hW
theorem c11 [Bd] (lo up:ByteArray) (hl hu:Bool) (h1:lo.size≤140737488351232) (w:World) (hB0:autoParam (Bd.B≤w.heap.size) sz0._auto_1):
  Calls Tryz.prog 11 #[.agg #[.string lo,.bool hl,.string up,.bool hu]] w fun e w'=>BoolRes e (hu=true→hl=true→cmpB lo up≤0)∧Ext w w':=by
 refine gs (bs:=[]) [.agg [sv lo,.bl hl,sv up,.bl hu]] [] Tryz.func11 (sat0 w) fun hW=>?_
 cases hu with
 |false=>
  refine gr1 200 ⟨[],0,[],[],0⟩ hW fun xb w1 _ hK1 hW1=>?_
  exact gt (.bl true) hW1.sat ⟨⟨true,rfl,by simp⟩,hK1⟩
 |true=>
  refine gr1 200 ⟨[],0,[],[],0⟩ hW fun xb w1 _ hK1 hW1=>?_
  refine go_sne (.tmp 8) 9 up [⟨24,[sv lo,.bl hl,sv up,.bl true]⟩] (by kernel_rfl) (by kernel_rfl) hW1 (by kernel_rfl) fun hV1=>?_
  by_cases he:(!(up.toList==[]))=true
  case neg=>
   refine gr0 (bs:=[xb]) 200 ⟨[],1,[],[(10,false)],0⟩ hV1 (fun w2 hK2 hW2=>?_) [(!(up.toList==[]),false)] ⟨eq_false_of_ne_true he,trivial⟩
   exact gt (.bl false) hW2.sat ⟨⟨false,rfl,by simp⟩,hK1.trans hK2⟩
  case pos=>
   cases hl with
   |false=>
    refine gr0 (bs:=[xb]) 200 ⟨[],1,[],[(10,true)],0⟩ hV1 (fun w2 hK2 hW2=>?_) [(!(up.toList==[]),true)] ⟨he,trivial⟩
    exact gt (.bl true) hW2.sat ⟨⟨true,rfl,by simp⟩,hK1.trans hK2⟩
   |true=>
    refine gr0 (bs:=[xb]) 200 ⟨[],1,[],[(10,true)],0⟩ hV1 (fun w2 hK2 hW2=>?_) [(!(up.toList==[]),true)] ⟨he,trivial⟩
    have hs2:=hW2.sq [⟨24,[sv lo,.bl true,sv up,.bl true]⟩]
    refine gc 29 [sv lo,sv up] hW2 ((c29 lo up h1 w2).mono ?_)
    rintro e w3 ⟨rfl,hE3⟩
    refine ⟨.si .i64 (cmpB lo up),[],_,rfl,hs2.kq hE3,fun hW3=>?_⟩
    refine gr0 (bs:=[xb]) 200 ⟨[],1,[],[],0⟩ hW3 fun w4 hK4 hW4=>?_
    exact gt (.sb (decide (cmpB lo up≤0))) hW4.sat ⟨⟨decide (cmpB lo up≤0),rfl,fun h _ _=>of_decide_eq_true h⟩,hK1.trans (hK2.trans (hE3.trans hK4))⟩
def nuT (xs:List S56) (i:Nat):Int:=(xs.getD i z56).f0
def PT (xs:List S56) (i:Nat):List S36:=(xs.getD i z56).f1.map E57
def ptsT (xs:List S56):List S57:=xs.flatMap (·.f1)
theorem cmpK_le [Bd] {a b:S57} (h:cmpK a b < 0):cmpB a.f0 b.f0≤0:=by
 unfold cmpK at h
 split at h
 ·omega
 ·rename_i h1;simp only [ne_eq,Classical.not_not] at h1;omega
theorem srt_of [Bd] {l:List S57} (h: ∀ i (h:i+1 < l.length),cmpK l[i] l[i+1] < 0):Srt l:=by
 have key: ∀ d i (hi:i+d < l.length),cmpB l[i].f0 l[i+d].f0≤0:=by
  intro d
  induction d with
  |zero=>intro i hi;have:=cmpB_refl l[i].f0;show cmpB l[i].f0 l[i].f0≤0;omega
  |succ d ih=>intro i hi;exact cmpB_le_trans (ih i (by omega)) (cmpK_le (h (i+d) (by omega)))
 intro i j hi hj hij
 have e:j=i+(j - i):=by omega
 have:=key (j - i) i (by omega)
 simpa only [←e] using this
theorem flat_map [Bd] (xs:List S56):flatP xs.length (PT xs)=(ptsT xs).map E57:=by
 have key: ∀ n,n≤xs.length→flatP n (PT xs)=((xs.take n).flatMap (·.f1)).map E57:=by
  intro n
  induction n with
  |zero=>intro _;simp [flatP]
  |succ n ih=>
   intro hn
   rw [flat_succ,ih (by omega),List.take_succ_eq_append_getElem (by omega:n < xs.length),List.flatMap_append,List.map_append]
   congr 1
   simp [PT,List.getD_eq_getElem?_getD,show n < xs.length by omega]
 have:=key xs.length (Nat.le_refl _)
 rw [List.take_length] at this
 exact this
theorem well_srt [Bd] {xs:List S56} (h:WellT xs):Srt (ptsT xs):=srt_of h.order
theorem Srt.filter [Bd] {l:List S57} (h:Srt l) (p:S57→Bool):Srt (l.filter p):=by
 have hp:List.Pairwise (fun a b=>cmpB a.f0 b.f0≤0) l:=List.pairwise_iff_getElem.2 (fun i j hi hj hij=>h i j hi hj (by omega))
 have hq:=hp.filter p
 intro i j hi hj hij
 rcases Nat.lt_or_ge i j with h1|h1
 ·exact List.pairwise_iff_getElem.1 hq i j hi hj h1
 ·obtain rfl:i=j:=by omega
  have:=cmpB_refl (l.filter p)[i].f0
  omega
theorem lay_of [Bd] {xs:List S56} (h:WellT xs) (ht: ∀ x∈xs,x.f2=[]) (lo up:ByteArray) (hl hu:Bool) (hb:hu=true→hl=true→cmpB lo up≤0):
  Lay xs.length (PT xs) (smP (PT xs)) (lgP (PT xs)) (opt hl lo) (opt hu up):=by
 have hpos: ∀ i,i < xs.length→0 < (PT xs i).length:=by
  intro i hi
  have e:PT xs i=xs[i].f1.map E57:=by simp [PT,List.getD_eq_getElem?_getD,hi]
  rw [e,List.length_map]
  exact List.length_pos_iff.2 (h.some _ (List.getElem_mem _) (ht _ (List.getElem_mem _)))
 refine ⟨hpos,fun i hi=>?_,fun i hi=>?_,fun i j x y hij h1 h2=>?_,fun l u h1 h2=>?_⟩
 ·refine ⟨(PT xs i)[0]'(hpos i hi),List.getElem?_eq_getElem (hpos i hi),?_⟩
  unfold smP;rw [List.getElem?_eq_getElem (hpos i hi)]
 ·have:=hpos i hi
  refine ⟨(PT xs i)[(PT xs i).length - 1]'(by omega),List.getElem?_eq_getElem (by omega),?_⟩
  unfold lgP;rw [List.getElem?_eq_getElem (by omega)]
 ·rw [flat_map] at h1 h2
  obtain ⟨hi,rfl⟩:=List.getElem?_eq_some_iff.1 h1
  obtain ⟨hj,rfl⟩:=List.getElem?_eq_some_iff.1 h2
  simp only [List.getElem_map]
  exact well_srt h i j (by simpa using hi) (by simpa using hj) hij
 ·cases hl with
  |false=>cases h1
  |true=>
   cases hu with
   |false=>cases h2
   |true=>
    cases h1
    cases h2
    exact hb rfl rfl
theorem first_get [Bd] {xs:List S56} {i:Nat} (hi:i < xs.length) (hp:0 < xs[i].f1.length):smP (PT xs) i=TL.bs (xs[i].f1[0]'hp).f0:=by
 have e:PT xs i=xs[i].f1.map E57:=by simp [PT,List.getD_eq_getElem?_getD,hi]
 unfold smP
 rw [e,List.getElem?_eq_getElem (by simpa using hp)]
 simp [Ky,E57]
theorem strict_sm [Bd] {xs:List S56} (h:WellT xs) (ht: ∀ x∈xs,x.f2=[]): ∀ i j,i < j→j < xs.length→cb (smP (PT xs) i) (smP (PT xs) j) < 0:=by
 have hpos: ∀ i (hi:i < xs.length),0 < xs[i].f1.length:=fun i hi=>List.length_pos_iff.2 (h.some _ (List.getElem_mem _) (ht _ (List.getElem_mem _)))
 have step: ∀ i (hi:i+1 < xs.length),cb (smP (PT xs) i) (smP (PT xs) (i+1)) < 0:=by
  intro i hi
  rw [first_get (by omega) (hpos i (by omega)),first_get hi (hpos (i+1) hi)]
  exact h.apart i hi (ht _ (List.getElem_mem _)) (ht _ (List.getElem_mem _)) _ (List.getElem_mem _) _ (List.getElem_mem _)
 have key: ∀ d i,i+d+1 < xs.length→cb (smP (PT xs) i) (smP (PT xs) (i+d+1)) < 0:=by
  intro d
  induction d with
  |zero=>intro i hi;exact step i hi
  |succ d ih=>
   intro i hi
   have h1:=ih i (by omega)
   have h2:=step (i+d+1) (by omega)
   rw [show i+(d+1)+1=i+d+1+1 by omega]
   exact cb_trans_lt _ _ _ h1 (Int.le_of_lt h2)
 intro i j hij hj
 have e:j=i+(j - i - 1)+1:=by omega
 rw [e]
 exact key (j - i - 1) i (by omega)
theorem kinds_of [Bd] {xs:List S56} (h:WellT xs) (htr: ∀ x∈xs, ∀ p∈x.f1,0≤p.f1∧p.f1 < 18446744073709551616): ∀ i,i < xs.length→ ∀ x∈PT xs i, ∃ t:Nat,x.f1=t∧t < 18446744073709551616∧(t % 256≠15∧t % 256≠19∧t % 256≠20∧t % 256≠21):=by
 intro i hi x hx
 have e:PT xs i=xs[i].f1.map E57:=by simp [PT,List.getD_eq_getElem?_getD,hi]
 rw [e] at hx
 obtain ⟨p,hp,rfl⟩:=List.mem_map.1 hx
 obtain ⟨h0,h1⟩:=htr _ (List.getElem_mem hi) p hp
 have hq:=h.points p (List.mem_flatMap.2 ⟨_,List.getElem_mem hi,hp⟩)
 obtain ⟨⟨_,hk,_⟩,hne⟩:=hq
 have hk:ptB (p.f1 % 256)=true:=hk.resolve_right hne
 unfold ptB at hk
 simp only [Bool.or_eq_true,beq_iff_eq] at hk
 refine ⟨p.f1.toNat,by show p.f1=_;omega,by omega,?_⟩
 omega
theorem nums_of [Bd] {xs:List S56} (h:WellT xs): ∀ i j,i < xs.length→j < xs.length→nuT xs i=nuT xs j→i=j:=by
 intro i j hi hj he
 have e1:nuT xs i=xs[i].f0:=by simp [nuT,List.getD_eq_getElem?_getD,hi]
 have e2:nuT xs j=xs[j].f0:=by simp [nuT,List.getD_eq_getElem?_getD,hj]
 rw [e1,e2] at he
 rcases Nat.lt_trichotomy i j with h1|h1|h1
 ·exact absurd he (h.nums i j hi hj h1)
 ·exact h1
 ·exact absurd he.symm (h.nums j i hj hi h1)
def allT (xs:List S56) (lo up:ByteArray) (hl hu:Bool):List S57:=(ptsT xs).filter (fun e=>insB lo up hl hu e.f0)
theorem cut_all [Bd] {xs:List S56} (h:WellT xs) (ht: ∀ x∈xs,x.f2=[]) (lo up:ByteArray) (hl hu:Bool) (hb:hu=true→hl=true→cmpB lo up≤0):
  cutG (flatP xs.length (PT xs)) (opt hl lo) (opt hu up)=(allT xs lo up hl hu).map E57:=by
 have L:=lay_of h ht lo up hl hu hb
 have hlu:=L.low_upp
 have hul:=upp_le (flatP xs.length (PT xs)) (opt hu up)
 have e:flatP xs.length (PT xs)=(ptsT xs).map E57:=flat_map xs
 have hin: ∀ i (hi:i < (ptsT xs).length),insB lo up hl hu (ptsT xs)[i].f0=true↔(lowN (flatP xs.length (PT xs)) (opt hl lo)≤i∧i < uppN (flatP xs.length (PT xs)) (opt hu up)):=by
  intro i hi
  have hg:(flatP xs.length (PT xs))[i]? =some (E57 (ptsT xs)[i]):=by rw [e];simp [hi]
  have h1:=L.low hg
  have h2:=L.upp hg
  have q1:(lowN (flatP xs.length (PT xs)) (opt hl lo)≤i)↔ ¬ ∃ l,opt hl lo=some l∧cb (Ky (E57 (ptsT xs)[i])) l < 0:=by rw [←h1];omega
  rw [q1,h2]
  have k1:Ky (E57 (ptsT xs)[i])=TL.bs (ptsT xs)[i].f0:=rfl
  rw [k1]
  unfold insB
  simp only [Bool.and_eq_true,Bool.or_eq_true,Bool.not_eq_true',decide_eq_true_eq]
  constructor
  ·rintro ⟨h3,h4⟩
   refine ⟨?_,?_⟩
   ·rintro ⟨l,hl',hc⟩
    cases hl with
    |false=>cases hl'
    |true=>
     cases hl'
     rcases h3 with h3|h3
     ·cases h3
     ·have:=cmpB_anti lo (ptsT xs)[i].f0
      have hc':cmpB (ptsT xs)[i].f0 lo < 0:=hc
      omega
   ·rintro ⟨u,hu',hc⟩
    cases hu with
    |false=>cases hu'
    |true=>
     cases hu'
     rcases h4 with h4|h4
     ·cases h4
     ·have:=cmpB_anti up (ptsT xs)[i].f0
      have hc':cmpB up (ptsT xs)[i].f0≤0:=hc
      omega
  ·rintro ⟨h3,h4⟩
   refine ⟨?_,?_⟩
   ·cases hl with
    |false=>exact .inl rfl
    |true=>
     refine .inr ?_
     apply Classical.byContradiction
     intro hc
     refine h3 ⟨_,rfl,?_⟩
     have:=cmpB_anti lo (ptsT xs)[i].f0
     show cmpB (ptsT xs)[i].f0 lo < 0
     omega
   ·cases hu with
    |false=>exact .inl rfl
    |true=>
     refine .inr ?_
     apply Classical.byContradiction
     intro hc
     refine h4 ⟨_,rfl,?_⟩
     have:=cmpB_anti up (ptsT xs)[i].f0
     show cmpB up (ptsT xs)[i].f0≤0
     omega
 generalize hlo:lowN (flatP xs.length (PT xs)) (opt hl lo)=a at *
 generalize hup:uppN (flatP xs.length (PT xs)) (opt hu up)=b at *
 have hul':b≤(ptsT xs).length:=by rw [e,List.length_map] at hul;exact hul
 unfold cutG allT
 rw [hlo,hup,e, ←List.map_take, ←List.map_drop]
 congr 1
 have s1:ptsT xs=((ptsT xs).take a++((ptsT xs).take b).drop a)++(ptsT xs).drop b:=by
  have t1:(ptsT xs).take a=((ptsT xs).take b).take a:=by rw [List.take_take];congr 1;omega
  rw [t1,List.take_append_drop,List.take_append_drop]
 conv=>rhs;rw [s1]
 rw [List.filter_append,List.filter_append]
 have f1:((ptsT xs).take a).filter (fun e=>insB lo up hl hu e.f0)=[]:=by
  rw [List.filter_eq_nil_iff]
  intro x hx hc
  obtain ⟨i,hi,rfl⟩:=List.getElem_of_mem hx
  simp only [List.length_take] at hi
  rw [List.getElem_take] at hc
  have:=(hin i (by omega)).1 hc
  omega
 have f2:((ptsT xs).drop b).filter (fun e=>insB lo up hl hu e.f0)=[]:=by
  rw [List.filter_eq_nil_iff]
  intro x hx hc
  obtain ⟨i,hi,rfl⟩:=List.getElem_of_mem hx
  simp only [List.length_drop] at hi
  rw [List.getElem_drop] at hc
  have:=(hin (b+i) (by omega)).1 hc
  omega
 have f3:(((ptsT xs).take b).drop a).filter (fun e=>insB lo up hl hu e.f0)=((ptsT xs).take b).drop a:=by
  rw [List.filter_eq_self]
  intro x hx
  obtain ⟨i,hi,rfl⟩:=List.getElem_of_mem hx
  simp only [List.length_drop,List.length_take] at hi
  rw [List.getElem_drop,List.getElem_take]
  exact (hin (a+i) (by omega)).2 (by omega)
 rw [f1,f2,f3]
 simp
structure Sml (xs:List S56) (steps:List S66) (lo up:ByteArray):Prop where
 n:xs.length < 2^30
 fits: ∀ x∈xs,okT x
 stp: ∀ s∈steps,s.f1.size < 2^31
 bds:lo.size < 2^31∧up.size < 2^31
 pts:(xs.flatMap (·.f1)).length < 2^30
 tombs:(xs.flatMap (·.f2)).length < 2^30
 keys:((xs.flatMap (·.f2)).flatMap (·.f2)).length < 2^30
 sz: ∀ x∈xs,szT x
 m:steps.length < 2^30
 lo:lo.size≤140737488351232
 up:up.size≤140737488351232
 ops: ∀ s∈steps,0≤s.f0
 tr: ∀ x∈xs, ∀ p∈x.f1,0≤p.f1∧p.f1 < 18446744073709551616
abbrev H3a (lo up:ByteArray) (hl hu:Bool):List SB:=[⟨24,B45 lo up hl hu⟩]
abbrev HT3 (A:Option Addr) (n c:Nat) (lo up:ByteArray) (hl hu:Bool):List SB:=[⟨24,B45 lo up hl hu⟩,⟨32,[.ns,.ns,.oc (.slice A n c) rfl,.ns,.ns,.ns,.ns,.ns]⟩]
noncomputable def KL3:List KI:=skK 8 24 [false,false] [.code (Tryz.f3.body.getD .skip)]
abbrev R3 (W:World) [Bd]:Ending→World→Prop:=fun e w'=>e=.returned (.bool true)∧Ext W w'
def keep3 (A:Option Addr) (n c:Nat) (A2:Option Addr) (m c2:Nat) (fv:V1) (rest:List (Nat×SV)):List (Nat×SV):=[(0,.oc (.slice A n c) rfl),(2,.oc (.slice A2 m c2) rfl),(4,.p 0 0),(6,.bl false),(8,.fn 7 []),(9,o1 fv)]++rest
end Go.Proofs.YtghppnklhbbffaaGreatDoor.X
