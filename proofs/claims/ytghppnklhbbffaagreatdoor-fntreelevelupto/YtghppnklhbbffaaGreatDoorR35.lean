/- Part 35 of the proof that laws.FnTreeLevel answers true, for arguments of small bulk. -/
import Derived.Test.YtghppnklhbbffaaGreatDoorR05
import Derived.Test.YtghppnklhbbffaaGreatDoorR33
import Derived.Test.YtghppnklhbbffaaGreatDoorR34
set_option linter.all false
set_option maxHeartbeats 4000000
set_option maxRecDepth 100000
namespace Go.Proofs.YtghppnklhbbffaaGreatDoor.X
open Go Go.RowKit Go.MapKept Go.Proofs.YtghppnklhbbffaaGreatDoor.TL Go.Proofs.YtghppnklhbbffaaGreatDoor.PFnTreeLevel Go.Proofs.YtghppnklhbbffaaGreatDoorW.PrintWords Go.Proofs.YtghppnklhbbffaaGreatDoorW.PrintMore
theorem rk57 [Bd] {w:World} {v:Value} {xs:List S57} (h:w.ownsRow Bd.B 57 3 v xs.length (xs.flatMap cells57)):RK k57 57 w v xs:=
 ⟨Bd.B,fun _ _=>trivial,_,h,reps_flat cells57 (fun _=>rfl) (fun x=>k57_mkM _ _ _ x) xs⟩
theorem rk50 [Bd] {w:World} {v:Value} {xs:List S50} (h:w.ownsRow Bd.B 50 4 v xs.length (xs.flatMap cells50)):RK k50 50 w v xs:=
 ⟨Bd.B,fun _ _=>trivial,_,h,reps_flat cells50 (fun _=>rfl) (fun x=>k50_mkM _ _ _ x) xs⟩
def cells66 (x:S66):List Value:=[.int .u8 x.f0,.string x.f1]
theorem rk66 [Bd] {w:World} {v:Value} {xs:List S66} (h:w.ownsRow Bd.B 66 2 v xs.length (xs.flatMap cells66)):RK k66 66 w v xs:=
 ⟨Bd.B,fun _ _=>trivial,_,h,reps_flat cells66 (fun _=>rfl) (fun x=>k66_mkM _ _ _ x) xs⟩
theorem rk145 {B:Nat} {w:World} {v:Value} {xs:List S145} (h:w.ownsRow B 145 4 v xs.length (xs.flatMap cells145)):RK k145 145 w v xs:=
 ⟨B,fun _ _=>trivial,_,h, @reps_flat ⟨0⟩ _ _ _ cells145 (fun _=>rfl) (fun x=>k145_mkM _ _ _ x) xs⟩
theorem fm_get {α:Type} (f:α→List Value) (k:Nat) (h: ∀ x,(f x).length=k): ∀ (L:List α) (i:Nat) (hi:i < L.length) (j:Nat),j < k→(L.flatMap f)[i*k+j]? =(f L[i])[j]?
 |[],i,hi,_,_=>absurd hi (Nat.not_lt_zero _)
 |a::r,0,_,j,hj=>by rw [List.flatMap_cons,Nat.zero_mul,Nat.zero_add,List.getElem?_append_left (by rw [h];exact hj)];rfl
 |a::r,i+1,hi,j,hj=>by
  rw [List.flatMap_cons,List.getElem?_append_right (by rw [h,Nat.succ_mul];omega),h,show (i+1)*k+j - k=i*k+j by rw [Nat.succ_mul];omega]
  exact fm_get f k h r i (Nat.lt_of_succ_lt_succ hi) j hj
theorem c34E [Bd] (A0:Option Addr) (c0:Nat) (l:List S57) (A:Option Addr) (c:Nat) (steps:List S66) (w:World) (hc0:A0=none→c0=0) (hc:A=none→c=0) (hl:l.length < 2^30) (sz: ∀ x∈l,x.f0.size≤140737488351232) (srt:Srt l) (hn:steps.length < 2^30) (h57:Kd.C k57 w A0 l.length l) (h66:Kd.C k66 w A steps.length steps):
  Calls Tryz.prog 34 #[.slice A0 l.length c0,.slice A steps.length c] w fun e w'=> ∃ v:V1,e=.returned v.1∧w'.ownsRow w.heap.size 145 4 v.1 steps.length ((walkA l (0,false) steps).flatMap cells145)∧Ext w w':=by
 have h:= @c34 ⟨w.heap.size⟩ A0 c0 l A c steps w hc0 hc hl sz srt hn (fun w' hk=>Kd.C_below h57 (Ext.below (ext_at _ _ hk (Nat.le_refl _)))) (fun w' hk=>Kd.C_below h66 (Ext.below (ext_at _ _ hk (Nat.le_refl _)))) (Nat.le_refl _)
 exact h.mono fun e w' ⟨v,h1,h2,h3⟩=>⟨v,h1,h2,ext_at _ _ h3 (Nat.le_refl _)⟩
noncomputable def S16 (L:V1) (A:Addr) (n c:Nat):ST:=runS Tryz.prog ⟨[],0,[],[],0⟩ 200 (startS Tryz.f16 [o1 L,.sl A n c] [])
def G16 (L:V1) (A:Addr) (n c:Nat) (dv ov:V1) (j:Int):List (Nat×SV):=[(0,o1 L),(5,o1 dv),(6,o1 ov),(11,.sl A n c),(12,.si .i64 n),(13,.si .i64 j)]
def T16 (L:V1) (A:Addr) (n c:Nat) (dv ov:V1) (j:Int) (ys:Nat→Value):List SV:=mkT 70 (G16 L A n c dv ov j) ys
def outs (l:List S57) (steps:List S66) (j:Nat):List Value:=((walkP (l.map E57) none ((steps.map E66).take j)).map conv).flatMap cells145
structure I16 [Bd] (l:List S57) (steps:List S66) (w0:World) (dv ov:V1) (done:List S66) (j:Nat) (w:World):Prop where
 hd:done.length≤j
 inv:InvS l done (posP (l.map E57) (steps.map E66) j)
 own:w.ownsRow Bd.B 66 2 dv.1 done.length (done.flatMap cells66)
 out:w.ownsRow Bd.B 145 4 ov.1 j (outs l steps j)
 hK:Kept [145,66] w0 w
def J16 [Bd] (l:List S57) (steps:List S66) (L:V1) (A:Addr) (n c:Nat) (w0:World) (m:Nat) (bs:List Nat) (T:List SV) (H:List SB) (w:World):Prop:=
 ∃ (j:Nat) (ys:Nat→Value) (dv ov:V1) (done:List S66),j≤n∧m+j=n∧bs=[]∧T=T16 L A n c dv ov j ys∧H=[]∧I16 l steps w0 dv ov done j w
section
variable {Q:Exit→Act→World→Prop} {l:List S57} {steps:List S66} {L:V1} {A0:Option Addr} {A:Addr} {n c c0:Nat} {w0:World} {m j:Nat} {dv ov:V1} {done:List S66} {xb:Nat} {w w1:World} {key:ByteArray} {op:Int}
theorem I16.ext [Bd] (h:I16 l steps w0 dv ov done j w) (hk:Ext w w1):I16 l steps w0 dv ov done j w1:=
 { h with own:=own_kept h.own hk (by simp),out:=own_kept h.out hk (by simp),hK:=h.hK.trans (hk.mono (by simp)) }
theorem outs_succ [Bd] (hj:j < steps.length):outs l steps (j+1)=outs l steps j++cells145 (conv (outP (l.map E57) (posP (l.map E57) (steps.map E66) j) (E66 steps[j]))):=by
 unfold outs posP
 rw [List.take_succ_eq_append_getElem (by rw [List.length_map];exact hj),walkP_snoc]
 simp
structure C16 [Bd] (l:List S57) (steps:List S66) (L:V1) (A0:Option Addr) (c0:Nat) (n m j:Nat) (w0:World):Prop where
 hjn:m+j=n
 hj:j < steps.length
 hln:steps.length=n
 hn:n < 2^30
 hl:l.length < 2^30
 sz: ∀ x∈l,x.f0.size≤140737488351232
 srt:Srt l
 hL:L.1=.slice A0 l.length c0
 hc0:A0=none→c0=0
 h57: ∀ w',Kept [145,66] w0 w'→Kd.C k57 w' A0 l.length l
theorem w16z [Bd] (h:C16 l steps L A0 c0 n m j w0) (A:Addr) (c:Nat) {S:ST} {bs:List Nat} (x x1 x2:Nat) (lz:List SV) (H:List SB) (done':List S66) (dv':V1) (hs:Wk bs S w) (hd:done'.length≤j+1) (hinv:InvS l done' (posP (l.map E57) (steps.map E66) (j+1))) (hown:w.ownsRow Bd.B 66 2 dv'.1 done'.length (done'.flatMap cells66)) (hout:w.ownsRow Bd.B 145 4 ov.1 j (outs l steps j)) (hK:Kept [145,66] w0 w)
  (hz:SV.denL bs lz=cells145 (conv (outP (l.map E57) (posP (l.map E57) (steps.map E66) j) (E66 (steps[j]'h.hj)))))
  (h0:curOp S=some (.buildSlice 62 1 #[(0,.tmp x)]):=by kernel_rfl) (hx:cellsV (evS S.T (.tmp x))=some lz:=by kernel_rfl) (hl:lz.length=4:=by rfl) (hH:S.H=H:=by kernel_rfl) (hw:wfH H.length H=true:=by kernel_rfl) (hHe:(H.all fun b=>b.ty !=145)=true:=by kernel_rfl) (hlt:SV.ltL H.length lz=true:=by kernel_rfl) (hone:(SV.denL bs lz).all (·.oneCell')=true:=by kernel_rfl)
  (h2: ∀ nb,let S1:=afterC S (.sl ⟨nb,0,none⟩ 1 1) (H++[⟨145,lz⟩]);curOp S1=some (.call (appC 62 (.tmp x1) (.tmp x2)))∧(evS S1.T (.tmp x1)).den (bs++[nb])=ov.1∧evS S1.T (.tmp x2)=.sl ⟨nb,0,none⟩ 1 1∧S1.H=H++[⟨145,lz⟩]:=by intro _;exact ⟨by kernel_rfl,by kernel_rfl,by kernel_rfl,by kernel_rfl⟩)
  (h3: ∀ nb v,let S3:=runS Tryz.prog ⟨[],bs.length+1,[],[],0⟩ 200 (afterC (afterC S (.sl ⟨nb,0,none⟩ 1 1) (H++[⟨145,lz⟩])) (o1 v) (H++[⟨145,lz⟩]));S3.ob=[]∧S3.H.length=bs.length+1∧finQ S3=some (Hand (J16 l steps L A n c w0) m)∧SV.denL (bs++[nb]) S3.T=SV.denL (bs++[nb]) (T16 L A n c dv' v (IntKind.i64.wrap ((j:Int)+1)) fun i=>(S3.T.getD i .un).den (bs++[nb])):=by intro _ _;exact ⟨by kernel_rfl,by kernel_rfl,by kernel_rfl,by kernel_rfl⟩):
  kx Tryz.prog Q S.K .normal (actS bs S.T) w:=by
 have hjn:=h.hjn
 have hj:=h.hj
 have hn:=h.hn
 have hln:=h.hln
 refine zapp 62 145 4 48 (.agg #[.string ⟨#[]⟩,.int .u64 0,.string ⟨#[]⟩,.bool false]) x x1 x2 lz ov j _ H hs hout (by omega) ((hs.satE _ hH).ne_own hout hHe) (fun nb v' w2 hown2 hK2 _ hW2=>?_) h0 hx (by kernel_rfl) (by kernel_rfl) rfl hl (by decide) (by decide) (by decide) hH hw hlt hone (fun nb=>(h2 nb).1) (fun nb=>(h2 nb).2.1) (fun nb=>(h2 nb).2.2.1) (fun nb=>(h2 nb).2.2.2)
 refine gr0 (bs:=bs++[nb]) 200 ⟨[],bs.length+1,[],[],0⟩ hW2 (fun w3 hK3 hW3=>?_) [] trivial (by kernel_rfl) (by simp) (h3 nb v').1 (by rw [(h3 nb v').2.1];simp)
 refine go_fin (Hand (J16 l steps L A n c w0) m) (h3 nb v').2.2.1 (fun ys=>T16 L A n c dv' v' (IntKind.i64.wrap ((j:Int)+1)) ys) (h3 nb v').2.2.2 (fun ys=>?_)
 rw [wrap_succ j (by omega)]
 refine ⟨m - 1,by omega,[],T16 L A n c dv' v' ((j+1:Nat):Int) ys,[],actS_cut [] (bs++[nb]) _ (by kernel_rfl),sat0 w3 hW3.sz,j+1,ys,dv',v',done',by omega,by omega,rfl,rfl,rfl,hd,hinv,own_kept hown (hK2.trans (hK3.mono (by simp))) (by simp),?_,hK.trans (hK2.tr hK3 (ts:=[145,66]))⟩
 rw [outs_succ hj, ←hz]
 exact own_kept hown2 hK3 (by simp)
noncomputable def P16 (q:Act→World→Prop):ST:=afterC (runS Tryz.prog ⟨[],0,[],[(14,true)],0⟩ 200 (bodyS (S16 nsV ⟨0,0,none⟩ 0 0) q (T16 nsV ⟨0,0,none⟩ 0 0 nsV nsV 0 (fun _=>.nilIface)) [])) (.agg [.si .u8 0,sv ⟨#[]⟩]) []
noncomputable def K16 (q:Act→World→Prop):List KI:=(runS Tryz.prog ⟨[],0,[],[(20,false),(23,false),(47,false)],0⟩ 200 (P16 q)).K
noncomputable def K17 (q:Act→World→Prop):List KI:=(runS Tryz.prog ⟨[],0,[],[(20,true)],0⟩ 200 (P16 q)).K
theorem w16c [Bd] (h:C16 l steps L A0 c0 n m j w0) (hI:I16 l steps w0 dv ov done j w) (hst:steps[j]'h.hj=⟨op,key⟩) (h0:0≤op) (h5:op≤5) (hr:op=2∨op=3→(posP (l.map E57) (steps.map E66) j).isSome=true) (hne: ∀ b∈[xb],some b≠dv.1.ownBlock) (ys:Nat→Value) (hW:Wk [xb] ⟨K16 (Hand (J16 l steps L A n c w0) m),mkT 70 ((52,o1 dv)::(53,.agg [.si .u8 op,sv key])::G16 L A n c dv ov j) ys,H34 op key,[]⟩ w):
  kx Tryz.prog Q (K16 (Hand (J16 l steps L A n c w0) m)) .normal (actS [xb] (mkT 70 ((52,o1 dv)::(53,.agg [.si .u8 op,sv key])::G16 L A n c dv ov j) ys)) w:=by
 have hn:=h.hn
 have hj:=h.hj
 have hln:=h.hln
 have hd:=hI.hd
 obtain ⟨hdo,ho,_⟩:=hI.inv.do ⟨op,key⟩ h0 h5 hr
 have hps:posP (l.map E57) (steps.map E66) (j+1)=stepP (l.map E57) (posP (l.map E57) (steps.map E66) j) (E66 ⟨op,key⟩):=by
  rw [posP_succ _ _ _ (by rw [List.length_map];exact hj),List.getElem_map,hst]
 refine zapp (S:=⟨K16 (Hand (J16 l steps L A n c w0) m),mkT 70 ((52,o1 dv)::(53,.agg [.si .u8 op,sv key])::G16 L A n c dv ov j) ys,H34 op key,[]⟩) 25 66 2 24 (.agg #[.int .u8 0,.string ⟨#[]⟩]) 53 52 54 [.si .u8 op,sv key] dv done.length _ (H34 op key) hW hI.own (by omega) hne (fun nb dv' w2 hown2 hK2 hnb hW2=>?_)
 have eo:done.flatMap cells66++SV.denL [xb] [.si .u8 op,sv key]=(done++[(⟨op,key⟩:S66)]).flatMap cells66:=by rw [List.flatMap_append];rfl
 rw [eo] at hown2
 have hlen:done.length+1=(done++[(⟨op,key⟩:S66)]).length:=by simp
 rw [hlen] at hown2
 refine gr0 (bs:=[xb,nb]) 200 ⟨[],2,[],[],0⟩ hW2 fun w3 hK3 hW3=>?_
 have hs3:=hW3.sq (H34 op key++[⟨66,[.si .u8 op,sv key]⟩])
 have hown3:=own_kept hown2 hK3 (by simp)
 have hX3:Kept [145,66] w0 w3:=hI.hK.trans (hK2.tr hK3 (ts:=[145,66]))
 have hout3:=own_kept hI.out (hK2.tr hK3 (ts:=[66])) (by simp)
 obtain ⟨A',c',e1,e2,_⟩:=own_form hown3
 have hc:=c34E A0 c0 l A' c' (done++[⟨op,key⟩]) w3 h.hc0 (fun h=>(e2 h).1) h.hl h.sz h.srt (by simp;omega) (h.h57 _ hX3) (by have:=rk66 hown3;rw [e1] at this;exact this.C.2)
 rw [←e1, ←h.hL] at hc
 refine gc 34 [o1 L,o1 dv'] hW3 (hc.mono ?_)
 rintro e w4 ⟨v,rfl,hownv,hE4⟩
 obtain ⟨Av,cv,f1,f2,f3⟩:=own_form hownv
 rcases Av with _|a
 ·have:=(f2 rfl).2;simp at this
 obtain ⟨g1,g2⟩:=f3 a rfl
 refine ⟨.sl a (done++[(⟨op,key⟩:S66)]).length cv,[],_,by rw [f1];rfl,hs3.kq hE4,fun hW4=>?_⟩
 have hN:(done++[(⟨op,key⟩:S66)]).length=done.length+1:=by simp
 have ew:IntKind.i64.wrap (((done++[(⟨op,key⟩:S66)]).length:Int) - 1)=(done.length:Int):=by rw [hN,show ((done.length+1:Nat):Int) - 1=(done.length:Int) by omega];exact IntWalk.i64_in _ (by omega)
 refine gr0 (bs:=[xb,nb]) 200 ⟨[],2,[],[],0⟩ hW4 (fun w5 hK5 hW5=>?_) [(decide ((0:Int)≤IntKind.i64.wrap (((done++[(⟨op,key⟩:S66)]).length:Int) - 1)),true),(decide (IntKind.i64.wrap (((done++[(⟨op,key⟩:S66)]).length:Int) - 1) < ((done++[(⟨op,key⟩:S66)]).length:Int)),true)] ⟨decide_eq_true (by rw [ew];omega),decide_eq_true (by rw [ew,hN];omega),trivial⟩
 generalize hy:outA l (stepA l (posA l done) ⟨op,key⟩)=y at ho
 refine go_loadA 145 (.tmp 64) (a.add ((IntKind.i64.wrap (((done++[(⟨op,key⟩:S66)]).length:Int) - 1)).toNat*4)) [sv y.f0.f0,.si .u64 y.f0.f1,sv y.f0.f2,.bl y.f1] (H34 op key++[⟨66,[.si .u8 op,sv key]⟩]) (by kernel_rfl) (by kernel_rfl) (by kernel_rfl) (by kernel_rfl) hW5 (by kernel_rfl) (fun i u hu=>?_) (fun hW6=>?_)
 ·rw [ew,Addr.add_add,Int.toNat_natCast,g2]
  have hc5:=hownv.cells g1 (done.length*4+i) (u.den [xb,nb])
  have hi:i < 4:=(List.getElem?_eq_some_iff.1 hu).1
  have hlw:(walkA l (0,false) (done++[⟨op,key⟩])).length=done.length+1:=by rw [walkA_len,hN]
  rw [fm_get cells145 4 (fun _=>rfl) _ done.length (by omega) i hi] at hc5
  have he:(walkA l (0,false) (done++[⟨op,key⟩]))[done.length]'(by omega)=y:=by
   simp only [walkA_snoc]
   rw [List.getElem_append_right (by rw [walkA_len];omega)]
   simp only [walkA_len,Nat.sub_self,List.getElem_cons_zero]
   exact hy
  rw [he] at hc5
  exact Ext.cell hK5 (hc5 (denL_getS (bs:=[xb,nb]) hu))
 refine gr0 (bs:=[xb,nb]) 200 ⟨[],2,[],[],0⟩ hW6 fun w7 hK7 hW7=>?_
 have hX7:Ext w3 w7:=hE4.trans (hK5.trans hK7)
 exact w16z h A c 65 59 66 [sv y.f0.f0,.si .u64 y.f0.f1,sv y.f0.f2,.bl y.f1] (H34 op key++[⟨66,[.si .u8 op,sv key]⟩]) (done++[⟨op,key⟩]) dv' hW7 (by omega) (by rw [hps];exact hdo) (own_kept hown3 hX7 (by simp)) (own_kept hout3 hX7 (by simp)) (hX3.trans (hX7.mono (by simp))) (by rw [hst, ←ho];rfl)
theorem lastOk_get [Bd] (hN:0 < done.length):lastOk l done=((walkA l (0,false) done)[done.length - 1]'(by rw [walkA_len];omega)).f1:=by
 unfold lastOk
 have e:(walkA l (0,false) done).getLast? =some ((walkA l (0,false) done)[done.length - 1]'(by rw [walkA_len];omega)):=by
  rw [List.getLast?_eq_getElem?]
  simp only [walkA_len]
  exact List.getElem?_eq_getElem _
 rw [e]
theorem w16r [Bd] (h:C16 l steps L A0 c0 n m j w0) (hI:I16 l steps w0 dv ov done j w) (hst:steps[j]'h.hj=⟨op,key⟩) (h23:op=2∨op=3) (hne: ∀ b∈[xb],some b≠dv.1.ownBlock) (ys:Nat→Value) (hW:Wk [xb] ⟨K17 (Hand (J16 l steps L A n c w0) m),mkT 70 ((8,.p 0 0)::(25,o1 L)::(26,o1 dv)::G16 L A n c dv ov j) ys,H34 op key,[]⟩ w):
  kx Tryz.prog Q (K17 (Hand (J16 l steps L A n c w0) m)) .normal (actS [xb] (mkT 70 ((8,.p 0 0)::(25,o1 L)::(26,o1 dv)::G16 L A n c dv ov j) ys)) w:=by
 have hn:=h.hn
 have hj:=h.hj
 have hln:=h.hln
 have hd:=hI.hd
 have hs:=hW.sq (H34 op key)
 obtain ⟨A',c',e1,e2,_⟩:=own_form hI.own
 have hc:=c34E A0 c0 l A' c' done w h.hc0 (fun h=>(e2 h).1) h.hl h.sz h.srt (by omega) (h.h57 _ hI.hK) (by have:=rk66 hI.own;rw [e1] at this;exact this.C.2)
 rw [←e1, ←h.hL] at hc
 refine gc 34 (s:=⟨K17 (Hand (J16 l steps L A n c w0) m),mkT 70 ((8,.p 0 0)::(25,o1 L)::(26,o1 dv)::G16 L A n c dv ov j) ys,H34 op key,[]⟩) [o1 L,o1 dv] hW (hc.mono ?_)
 rintro e w2 ⟨v,rfl,hownv,hE2⟩
 have hI2:=hI.ext hE2
 obtain ⟨Av,cv,f1,f2,f3⟩:=own_form hownv
 have hps:posP (l.map E57) (steps.map E66) (j+1)=stepP (l.map E57) (posP (l.map E57) (steps.map E66) j) (E66 ⟨op,key⟩):=by
  rw [posP_succ _ _ _ (by rw [List.length_map];exact hj),List.getElem_map,hst]
 have zer: ∀ {S:ST} {v:World},Wk [xb] S v→Ext w v→posP (l.map E57) (steps.map E66) j=none→(Wk [xb] S v→I16 l steps w0 dv ov done j v→SV.denL [xb] z4=cells145 (conv (outP (l.map E57) (posP (l.map E57) (steps.map E66) j) (E66 (steps[j]'h.hj))))→InvS l done (posP (l.map E57) (steps.map E66) (j+1))→kx Tryz.prog Q S.K .normal (actS [xb] S.T) v)→kx Tryz.prog Q S.K .normal (actS [xb] S.T) v:=by
  intro S v hS hv hp hk
  refine hk hS (hI.ext hv) ?_ ?_
  ·rw [hst,hp,outP_rel _ _ h23];rfl
  ·have:=hI.inv
   rw [hps,hp,stepP_rel _ _ h23]
   rw [hp] at this
   exact this
 by_cases hN:done.length=0
 ·have hp:posP (l.map E57) (steps.map E66) j=none:=by
   have h1:=hI.inv.ok
   have h2:=List.eq_nil_of_length_eq_zero hN
   subst h2
   cases hq:posP (l.map E57) (steps.map E66) j with
   |none=>rfl
   |some i=>rw [hq] at h1;cases h1
  rcases Av with _|a
  ·refine ⟨.ns,[],_,by rw [f1,(f2 rfl).1,hN];rfl,hs.kq hE2,fun hW2=>?_⟩
   refine gr0 (bs:=[xb]) 200 ⟨[],1,[],[],0⟩ hW2 fun w3 hK3 hW3=>?_
   exact zer hW3 (hE2.trans hK3) hp fun hW3 hI3 hz hi=>w16z h A c 42 41 43 z4 (H34 op key) done dv hW3 (by omega) hi hI3.own hI3.out hI3.hK hz
  ·refine ⟨.sl a done.length cv,[],_,by rw [f1];rfl,hs.kq hE2,fun hW2=>?_⟩
   refine gr0 (bs:=[xb]) 200 ⟨[],1,[],[(31,true)],0⟩ hW2 (fun w3 hK3 hW3=>?_) [((done.length:Int)==0,true)] ⟨beqT (by omega),trivial⟩
   exact zer hW3 (hE2.trans hK3) hp fun hW3 hI3 hz hi=>w16z h A c 42 41 43 z4 (H34 op key) done dv hW3 (by omega) hi hI3.own hI3.out hI3.hK hz
 ·rcases Av with _|a
  ·exact absurd (f2 rfl).2 hN
  obtain ⟨g1,g2⟩:=f3 a rfl
  have ew:IntKind.i64.wrap ((done.length:Int) - 1)=((done.length - 1:Nat):Int):=by rw [wrap_pred _ (by omega)];omega
  refine ⟨.sl a done.length cv,[],_,by rw [f1];rfl,hs.kq hE2,fun hW2=>?_⟩
  refine gr0 (bs:=[xb]) 200 ⟨[],1,[],[(31,false)],0⟩ hW2 (fun w3 hK3 hW3=>?_) [((done.length:Int)==0,false),(decide ((0:Int)≤IntKind.i64.wrap ((done.length:Int) - 1)),true),(decide (IntKind.i64.wrap ((done.length:Int) - 1) < (done.length:Int)),true)] ⟨beqF (by omega),decide_eq_true (by rw [ew];omega),decide_eq_true (by rw [ew];omega),trivial⟩
  have hcell:w3.cell? ((a.add ((IntKind.i64.wrap ((done.length:Int) - 1)).toNat*4)).add 3)=some (.bool (posP (l.map E57) (steps.map E66) j).isSome):=by
   rw [ew,Addr.add_add,Int.toNat_natCast,g2]
   have hc5:=hownv.cells g1 ((done.length - 1)*4+3) (.bool (posP (l.map E57) (steps.map E66) j).isSome)
   rw [fm_get cells145 4 (fun _=>rfl) _ (done.length - 1) (by rw [walkA_len];omega) 3 (by omega), ←hI.inv.ok,lastOk_get (by omega)] at hc5
   rw [←hI.inv.ok,lastOk_get (by omega)]
   exact Ext.cell hK3 (hc5 rfl)
  have hX3:Ext w w3:=hE2.trans hK3
  cases hp:posP (l.map E57) (steps.map E66) j with
  |none=>
   rw [hp] at hcell
   refine go_load 4 (.tmp 37) ((a.add ((IntKind.i64.wrap ((done.length:Int) - 1)).toNat*4)).add 3) (.bl false) (H34 op key) (by kernel_rfl) (by kernel_rfl) (by kernel_rfl) hW3 (by kernel_rfl) hcell (fun hW4=>?_)
   refine gr0 (bs:=[xb]) 200 ⟨[],1,[],[],0⟩ hW4 fun w5 hK5 hW5=>?_
   exact zer hW5 (hX3.trans hK5) hp fun hW3 hI3 hz hi=>w16z h A c 42 41 43 z4 (H34 op key) done dv hW3 (by omega) hi hI3.own hI3.out hI3.hK hz
  |some i=>
   rw [hp] at hcell
   refine go_load 4 (.tmp 37) ((a.add ((IntKind.i64.wrap ((done.length:Int) - 1)).toNat*4)).add 3) (.bl true) (H34 op key) (by kernel_rfl) (by kernel_rfl) (by kernel_rfl) hW3 (by kernel_rfl) hcell (fun hW4=>?_)
   refine gr0 (bs:=[xb]) 200 ⟨[],1,[],[(47,false)],0⟩ hW4 (fun w5 hK5 hW5=>?_) [(decide (op>5),false)] ⟨decide_eq_false (by omega),trivial⟩
   exact go_cut (K16 (Hand (J16 l steps L A n c w0) m)) 70 ((52,o1 dv)::(53,.agg [.si .u8 op,sv key])::G16 L A n c dv ov j) (H34 op key) (by kernel_rfl) (by kernel_rfl) (by kernel_rfl) hW5 (hW5.sq (H34 op key)) fun ys hW=>w16c h (hI.ext (hX3.trans hK5)) hst (by omega) (by omega) (fun _=>by rw [hp];rfl) hne ys hW
theorem c16 [Bd] (A0:Option Addr) (c0:Nat) (l:List S57) (A:Option Addr) (c:Nat) (steps:List S66) (w:World) (hc0:A0=none→c0=0) (hl:l.length < 2^30) (sz: ∀ x∈l,x.f0.size≤140737488351232) (srt:Srt l) (hn:steps.length < 2^30) (hop: ∀ s∈steps,0≤s.f0) (h57: ∀ w',Kept [145,66] w w'→Kd.C k57 w' A0 l.length l) (h66: ∀ w',Kept [145,66] w w'→Kd.C k66 w' A steps.length steps) (hB0:autoParam (Bd.B≤w.heap.size) sz0._auto_1):
  Calls Tryz.prog 16 #[.slice A0 l.length c0,.slice A steps.length c] w fun e w'=> ∃ v:V1,e=.returned v.1∧w'.ownsRow Bd.B 145 4 v.1 steps.length (outs l steps steps.length)∧Kept [145,66] w w':=by
 obtain ⟨L,hL⟩: ∃ L:V1,L.1=.slice A0 l.length c0:=⟨⟨_,rfl⟩,rfl⟩
 rw [←hL]
 cases A with
 |none=>
  have h0:steps=[]:=by
   rcases steps with _|⟨x,r⟩
   ·rfl
   ·obtain ⟨ad,e,_⟩:=(h66 w (Kept.refl _ _)).2.2 (Nat.succ_pos _);cases e
  subst h0
  refine gs (bs:=[]) [o1 L,.oc (.slice none 0 c) rfl] [] Tryz.func16 (sat0 w) fun hW=>?_
  refine gr0 200 ⟨[],0,[],[],0⟩ hW fun w1 hK1 hW1=>?_
  refine go_lenS 25 66 (.tmp 11) none 0 c [] (by kernel_rfl) (by kernel_rfl) (by kernel_rfl) hW1 (by kernel_rfl) fun hV1=>?_
  refine gr0 (bs:=[]) 200 ⟨[],0,[],[(14,false)],1⟩ hV1 (fun w2 hK2 hW2=>?_) [(decide ((0:Int) < ((0:Nat):Int)),false)] ⟨rfl,trivial⟩
  exact gt .ns hW2.sat ⟨nsV,rfl,World.ownsRow_nil _ _ _ _,(hK1.trans hK2).mono (by simp)⟩
 |some a=>
 refine gs (bs:=[]) [o1 L,.sl a steps.length c] [] Tryz.func16 (sat0 w) fun hW=>?_
 refine gr0 200 ⟨[],0,[],[],0⟩ hW (fun w1 hK1 hW1=>?_)
 refine go_loop (s:=S16 L a steps.length c) (bs:=[]) (J16 l steps L a steps.length c w) steps.length (by kernel_rfl) hW1 (fun ys=>T16 L a steps.length c nsV nsV 0 ys) [] (by kernel_rfl) (by kernel_rfl) (fun ys=>⟨0,ys,nsV,nsV,[],by omega,by omega,rfl,rfl,rfl,Nat.le_refl _,⟨rfl,fun _ h=>by cases h⟩,World.ownsRow_nil _ _ _ _,World.ownsRow_nil _ _ _ _,hK1.mono (by simp)⟩) ?_ ?_
 ·rintro m bs' T H w' ⟨j,ys,_,_,_,_,_,rfl,_⟩
  exact ⟨[],rfl⟩
 ·rintro m bs' T H w' ⟨j,ys,dv,ov,done,hj,hm,rfl,rfl,rfl,hI⟩ hW'
  by_cases hlt:j < steps.length
  ·refine gr0 (bs:=[]) 200 ⟨[],0,[],[(14,true)],0⟩ hW' (fun v1 hG1 hV1=>?_) [(decide ((j:Int) < steps.length),true),(decide ((0:Int)≤j),true),(decide ((j:Int) < steps.length),true)] ⟨by simpa using hlt,by simp,by simpa using hlt,trivial⟩
   have hI1:=hI.ext hG1
   obtain ⟨ad,cs,e1,_,hK,hcell⟩:=ReadsRow.get_ (h66 v1 hI1.hK) z66 (j:Int) (by omega) (by omega)
   cases e1
   have hx:steps.getD (j:Int).toNat z66=steps[j]:=by simp [List.getD_eq_getElem?_getD,hlt]
   rw [hx] at hK
   have h0:=hop _ (List.getElem_mem hlt)
   generalize hs:steps[j]=x at hK h0
   obtain ⟨op,key⟩:=x
   obtain rfl:=k66_open hK
   have h0:0≤op:=h0
   have h:C16 l steps L A0 c0 steps.length m j w:=⟨hm,hlt,rfl,hn,hl,sz,srt,hL,hc0,h57⟩
   have hne: ∀ {b:Nat},(∀ x∈[b],v1.heap.size≤x)→ ∀ x∈[b],some x≠dv.1.ownBlock:=fun hb x hx he=>by
    have:=own_lt' hI1.own _ he.symm
    have:=hb x hx
    omega
   have hps:posP (l.map E57) (steps.map E66) (j+1)=stepP (l.map E57) (posP (l.map E57) (steps.map E66) j) (E66 ⟨op,key⟩):=by
    rw [posP_succ _ _ _ (by rw [List.length_map];exact hlt),List.getElem_map,hs]
   refine go_loadA 66 (.tmp 15) (a.add ((j:Int).toNat*2)) [.si .u8 op,sv key] [] (by kernel_rfl) (by kernel_rfl) (by kernel_rfl) (by kernel_rfl) hV1 (by kernel_rfl) (fun i y hy=>by rw [Addr.add_add];exact hcell i _ (denL_getS (bs:=[]) hy)) (fun hV2=>?_)
   by_cases o2:op=2
   ·refine gr1 (bs:=[]) 200 ⟨[],0,[],[(20,true)],0⟩ hV2 (fun xb w3 hb hK3 hW3=>?_) [(op==2,true)] ⟨beqT o2,trivial⟩
    exact go_cut (K17 (Hand (J16 l steps L a steps.length c w) m)) 70 ((8,.p 0 0)::(25,o1 L)::(26,o1 dv)::G16 L a steps.length c dv ov j) (H34 op key) (by kernel_rfl) (by kernel_rfl) (by kernel_rfl) hW3 (hW3.sq (H34 op key)) fun ys hW=>w16r h (hI1.ext hK3) hs (.inl o2) (hne hb) ys hW
   by_cases o3:op=3
   ·refine gr1 (bs:=[]) 200 ⟨[],0,[],[(20,false),(23,true)],0⟩ hV2 (fun xb w3 hb hK3 hW3=>?_) [(op==2,false),(op==3,true)] ⟨beqF o2,beqT o3,trivial⟩
    exact go_cut (K17 (Hand (J16 l steps L a steps.length c w) m)) 70 ((8,.p 0 0)::(25,o1 L)::(26,o1 dv)::G16 L a steps.length c dv ov j) (H34 op key) (by kernel_rfl) (by kernel_rfl) (by kernel_rfl) hW3 (hW3.sq (H34 op key)) fun ys hW=>w16r h (hI1.ext hK3) hs (.inr o3) (hne hb) ys hW
   by_cases o5:op>5
   ·refine gr1 (bs:=[]) 200 ⟨[],0,[],[(20,false),(23,false),(47,true)],0⟩ hV2 (fun xb w3 hb hK3 hW3=>?_) [(op==2,false),(op==3,false),(decide (op>5),true)] ⟨beqF o2,beqF o3,decide_eq_true o5,trivial⟩
    have hI3:=hI1.ext hK3
    have hd:=hI.hd
    exact w16z h a c 49 48 50 z4 (H34 op key) done dv hW3 (by omega) (by rw [hps,stepP_big _ _ _ o5];exact hI.inv) hI3.own hI3.out hI3.hK (by rw [hs,outP_big _ _ _ o5];rfl)
   ·refine gr1 (bs:=[]) 200 ⟨[],0,[],[(20,false),(23,false),(47,false)],0⟩ hV2 (fun xb w3 hb hK3 hW3=>?_) [(op==2,false),(op==3,false),(decide (op>5),false)] ⟨beqF o2,beqF o3,decide_eq_false o5,trivial⟩
    exact go_cut (K16 (Hand (J16 l steps L a steps.length c w) m)) 70 ((52,o1 dv)::(53,.agg [.si .u8 op,sv key])::G16 L a steps.length c dv ov j) (H34 op key) (by kernel_rfl) (by kernel_rfl) (by kernel_rfl) hW3 (hW3.sq (H34 op key)) fun ys hW=>w16c h (hI1.ext hK3) hs h0 (by omega) (fun h=>by omega) (hne hb) ys hW
  ·obtain rfl:j=steps.length:=by omega
   refine gr0 (bs:=[]) 200 ⟨[],0,[],[(14,false)],0⟩ hW' (fun v1 hG1 hV1=>?_) [(decide ((steps.length:Int) < steps.length),false)] ⟨by simp,trivial⟩
   exact gt (o1 ov) hV1.sat ⟨ov,rfl,own_kept hI.out hG1 (by simp),hI.hK.trans (hG1.mono (by simp))⟩
end
theorem c16E [Bd] (A0:Option Addr) (c0:Nat) (l:List S57) (A:Option Addr) (c:Nat) (steps:List S66) (w:World) (hc0:A0=none→c0=0) (hl:l.length < 2^30) (sz: ∀ x∈l,x.f0.size≤140737488351232) (srt:Srt l) (hn:steps.length < 2^30) (hop: ∀ s∈steps,0≤s.f0) (h57:Kd.C k57 w A0 l.length l) (h66:Kd.C k66 w A steps.length steps):
  Calls Tryz.prog 16 #[.slice A0 l.length c0,.slice A steps.length c] w fun e w'=> ∃ v:V1,e=.returned v.1∧RK k145 145 w' v.1 ((walkP (l.map E57) none (steps.map E66)).map conv)∧Ext w w':=by
 have h:= @c16 ⟨w.heap.size⟩ A0 c0 l A c steps w hc0 hl sz srt hn hop (fun w' hk=>Kd.C_below h57 (Ext.below (ext_at _ _ hk (Nat.le_refl _)))) (fun w' hk=>Kd.C_below h66 (Ext.below (ext_at _ _ hk (Nat.le_refl _)))) (Nat.le_refl _)
 refine h.mono fun e w' ⟨v,h1,h2,h3⟩=>⟨v,h1,rk145 (B:=w.heap.size) ?_,ext_at _ _ h3 (Nat.le_refl _)⟩
 have hwl: ∀ (G:List S36) (p:Option Nat) (l:List S47),(walkP G p l).length=l.length:=by
  intro G p l
  induction l generalizing p with
  |nil=>rfl
  |cons s r ih=>rw [walkP,List.length_cons,List.length_cons,ih]
 rw [List.length_map,hwl,List.length_map]
 unfold outs at h2
 rw [show (steps.map E66).take steps.length=steps.map E66 by rw [List.take_of_length_le (by simp)]] at h2
 exact h2
theorem range_get [Bd] (f:Nat→List Value) (h: ∀ i,(f i).length=3): ∀ (n i k:Nat),i < n→k < 3→((List.range n).flatMap f)[i*3+k]? =(f i)[k]?:=by
 have hlen: ∀ n,((List.range n).flatMap f).length=n*3:=by
  intro n
  induction n with
  |zero=>rfl
  |succ n ih=>rw [List.range_succ,List.flatMap_append,List.length_append,ih];simp [h];omega
 intro n
 induction n with
 |zero=>intro i k hi;omega
 |succ n ih=>
  intro i k hi hk
  rw [List.range_succ,List.flatMap_append]
  by_cases h1:i < n
  ·rw [List.getElem?_append_left (by rw [hlen];omega)];exact ih i k h1 hk
  ·obtain rfl:i=n:=by omega
   rw [List.getElem?_append_right (by rw [hlen];omega),hlen]
   simp
theorem add_add [Bd] (g i k:Nat):((⟨g,0,none⟩:Addr).add i).add k=(⟨g,0,none⟩:Addr).add (i+k):=by
 unfold Addr.add
 by_cases h1:i=0<;>by_cases h2:k=0<;>simp [h1,h2]
theorem tabs_of [Bd] {xs:List S56} {fv:V1} {pv:Nat→Value} {w:World} (hn:0 < xs.length) (h:I13 xs fv xs.length pv w) (hp: ∀ i,i < xs.length→1≤(PT xs i).length∧(PT xs i).length < 2^30):
  ∃ g c,fv.1=.slice (some ⟨g,0,none⟩) xs.length c∧TabsR w ⟨g,0,none⟩ xs.length (nuT xs) pv (PT xs):=by
 obtain ⟨h1,h2⟩:=h
 rcases h1.2 with ⟨_,h0⟩|⟨g,cap,cur,hv,hbg,hg,hnc,_⟩
 ·omega
 refine ⟨g,cap,hv,⟨cur,(0,0),hg⟩,fun i hi=>?_⟩
 have hc:=h1.cells (g:=g) (by rw [hv];rfl)
 have q: ∀ k,k < 3→((List.range xs.length).flatMap (tabC (fun i=>(xs.getD i z56).f0) pv))[i*3+k]? =(tabC (fun i=>(xs.getD i z56).f0) pv i)[k]?:=fun k hk=>range_get _ (fun _=>rfl) _ i k hi hk
 refine ⟨?_,?_,?_,h2 i hi,hp i hi⟩
 ·have:=hc (i*3+0) (.int .u64 (nuT xs i)) (by rw [q 0 (by omega)];rfl)
  rwa [Nat.add_zero] at this
 ·rw [add_add];exact hc (i*3+1) (pv i) (by rw [q 1 (by omega)];rfl)
 ·rw [add_add];exact hc (i*3+2) (.slice none 0 0) (by rw [q 2 (by omega)];rfl)
def T13R [Bd] (xs:List S56) (tv:V1) (w:World):Prop:=(xs=[]→tv.1=.slice none 0 0)∧(xs≠[]→ ∃ pv,I13 xs tv xs.length pv w)
theorem T13R.kept [Bd] {xs:List S56} {tv:V1} {w w':World} (h:T13R xs tv w) (hk:Ext w w'):T13R xs tv w':=
 ⟨h.1,fun hn=>by obtain ⟨pv,h1,h2⟩:=h.2 hn;exact ⟨pv,own_kept h1 hk (by simp),fun i hi=>(h2 i hi).kept hk (by decide)⟩⟩
theorem h13 [Bd] (A:Option Addr) (c:Nat) (xs:List S56) (W w:World) (hw:W.heap.size=Bd.B) (hr:Kd.C k56 W A xs.length xs) (hbel:Below W.heap.size W w) (hl:xs.length≤10) (ht: ∀ x∈xs,x.f1.length≤30∧x.f2=[]) (hB0:Bd.B≤w.heap.size):
  Calls Tryz.prog 13 #[.slice A xs.length c] w fun e w'=> ∃ tv:V1,e=.returned tv.1∧T13R xs tv w'∧Kept [43] w w':=by
 cases xs with
 |nil=>
  refine (c13_0 A c w).mono ?_
  rintro e w' ⟨rfl,hE⟩
  exact ⟨nilV,rfl,⟨fun _=>rfl,fun h=>absurd rfl h⟩,hE.mono (by simp)⟩
 |cons x r=>
  obtain ⟨ad,A1,c1,A2,c2,e1,_⟩:=at56 hr 0 (by simp)
  subst e1
  refine (c13 ad (x::r).length c (x::r) W w rfl hl hr hw hbel (fun y hy=>(ht y hy).2) (fun y hy=>by have:=(ht y hy).1;omega) hB0).mono ?_
  rintro e w' ⟨fv,pv,rfl,hI,hK⟩
  exact ⟨fv,rfl,⟨fun h=>(by cases h),fun _=>⟨pv,hI⟩⟩,hK⟩
theorem h9 [Bd] (xs:List S56) (lo up:ByteArray) (hl hu:Bool) (tv sv:V1) (steps:List S66) (w:World) (hwell:WellT xs) (ht: ∀ x∈xs,x.f1.length≤30∧x.f2=[]) (hmb:hu=true→hl=true→cmpB lo up≤0) (htr: ∀ x∈xs, ∀ p∈x.f1,0≤p.f1∧p.f1 < 18446744073709551616)
  (hn:xs.length≤10) (hT:T13R xs tv w) (hst:RK k47 47 w sv.1 (steps.map E66)) (hm:steps.length < 2^30) (hop: ∀ s∈steps,0≤s.f0) (hB0:Bd.B≤w.heap.size):
  Calls Tryz.prog 9 #[tv.1,.agg #[.string lo,.bool hl,.string up,.bool hu],sv.1] w fun e w'=> ∃ v:V1,e=.returned (.tuple #[v.1,.bool true])∧w'.ownsRow Bd.B 50 4 v.1 steps.length ((walkP ((allT xs lo up hl hu).map E57) none (steps.map E66)).flatMap cells50)∧Kept KTL w w':=by
 have ht2: ∀ x∈xs,x.f2=[]:=fun x hx=>(ht x hx).2
 have L:=lay_of hwell ht2 lo up hl hu hmb
 have hcut:=cut_all hwell ht2 lo up hl hu hmb
 have hop': ∀ s∈steps.map E66,0≤s.f0:=fun s hs=>by obtain ⟨q,hq,rfl⟩:=List.mem_map.1 hs;exact hop q hq
 have hml:(steps.map E66).length=steps.length:=List.length_map _
 by_cases h0:xs=[]
 ·have hb:=bnds_ok lo up hl hu L
  rw [hcut] at hb
  have hz:(allT xs lo up hl hu).map E57=[]:=by rw [h0];rfl
  rw [hz] at hb ⊢
  rw [hT.1 h0]
  refine (c9_0 lo up hl hu sv (steps.map E66) w hst (by omega) hop' hb hB0).mono ?_
  rintro e w' ⟨v,rfl,hown,hK⟩
  rw [hml] at hown
  exact ⟨⟨v,own_one hown⟩,rfl,hown,hK⟩
 ·obtain ⟨pv,hI⟩:=hT.2 h0
  have hpos:0 < xs.length:=List.length_pos_iff.2 h0
  obtain ⟨g,c,hv,hTab⟩:=tabs_of hpos hI (fun i hi=>by
   have e:PT xs i=xs[i].f1.map E57:=by simp [PT,List.getD_eq_getElem?_getD,hi]
   have h1:=L.pos i hi
   have h2:=(ht _ (List.getElem_mem hi)).1
   refine ⟨h1,?_⟩
   rw [e,List.length_map];omega)
  rw [hv]
  refine (c9 lo up hl hu ⟨g,0,none⟩ xs.length c (nuT xs) pv (PT xs) sv (steps.map E66) w hpos hn (nums_of hwell) hTab hst (by omega) hop' L (fun i j=>strict_sm hwell ht2 i j) (kinds_of hwell htr) hB0).mono ?_
  rintro e w' ⟨v,rfl,hown,hK⟩
  rw [hcut,hml] at hown
  exact ⟨⟨v,own_one hown⟩,rfl,hown,hK⟩
theorem c7E [Bd] (w:World):Calls Tryz.prog 7 #[] w fun e w'=>e=.returned (.bool true)∧Ext w w':=by
 have h:= @c7 ⟨w.heap.size⟩ w (Nat.le_refl _)
 refine h.mono ?_
 rintro e w' ⟨he,hk⟩
 exact ⟨he,ext_at _ _ hk (Nat.le_refl _)⟩
theorem same_conv [Bd] (g:S50):sameF g (conv g):=⟨rfl,fun _=>⟨rfl,rfl,rfl⟩⟩
noncomputable def KT3:List KI:=skK 8 31 [false,false,false] [.code (Tryz.f3.body.getD .skip)]
def T3t (A:Option Addr) (n c:Nat) (A2:Option Addr) (m c2:Nat) (fv:V1) (ys:Nat→Value):List SV:=mkT 119 (keep3 A n c A2 m c2 fv []) ys
theorem c3_tail [Bd] (A:Option Addr) (c:Nat) (xs:List S56) (lo up:ByteArray) (hl hu:Bool) (A2:Option Addr) (c2:Nat) (steps:List S66) (W:World) (hw:W.heap.size=Bd.B) (hr:Kd.C k56 W A xs.length xs) (hr2:Kd.C k66 W A2 steps.length steps) (hc2:steps.length≤c2) (S:Sml xs steps lo up)
  (hwell:WellT xs) (ht: ∀ x∈xs,x.f1.length≤30∧x.f2=[]) (hmb:hu=true→hl=true→cmpB lo up≤0) (hn:xs.length≤10) (hm:steps.length≤40) (fv:V1) (bb tb:Nat) (ys:Nat→Value) (w:World)
  (hK:Kept [57] W w) (hfv:w.ownsRow Bd.B 57 3 fv.1 (allT xs lo up hl hu).length ((allT xs lo up hl hu).flatMap cells57))
  (hW:Wk [bb,tb] ⟨KT3,T3t A xs.length c A2 steps.length c2 fv ys,HT3 A xs.length c lo up hl hu,[]⟩ w):
  kx Tryz.prog (bodyPost Tryz.prog Tryz.f3 (R3 W)) KT3 .normal (actS [bb,tb] (T3t A xs.length c A2 steps.length c2 fv ys)) w:=by
 refine gd (s:=⟨KT3,T3t A xs.length c A2 steps.length c2 fv ys,HT3 A xs.length c lo up hl hu,[]⟩) (43::KTL) [] hW (fun hD=>?_)
 refine gr0 (bs:=[bb,tb]) 200 ⟨[],2,[],[],0⟩ hD fun w1 hE1 hW1=>?_
 have hHT: ∀ {w'},Kept (43::KTL) w w'→Kept (57::43::KTL) W w':=fun h=>(hK.mono (by simp)).trans (h.mono (fun t ht=>List.mem_cons_of_mem _ ht))
 have hE01:Ext w w1:=((Kept.refl [] w).drew).trans hE1
 have hs1:=hW1.sq (HT3 A xs.length c lo up hl hu)
 refine gcd 13 [.oc (.slice A xs.length c) rfl] (43::KTL) w.drew hW1 (fun hC=>?_)
 refine (h13 A c xs W w1 hw hr (Kept.toBelow (hK.trans (hE01.mono (by simp))) hw) hn ht hW1.sz).mono ?_
 rintro e w2 ⟨tv,rfl,hT2,hK2⟩
 have hs2:=hs1.kq hK2
 refine ⟨o1 tv,[],_,rfl,hs2,hC.trans (hK2.mono (by simp)),fun hW2=>?_⟩
 refine gr0 (bs:=[bb,tb]) 200 ⟨[],2,[],[],0⟩ hW2 fun w3 hE3 hW3=>?_
 have hs3:=hW3.sq (HT3 A xs.length c lo up hl hu)
 have hK03:Kept (43::KTL) w w3:=hE01.tr (hK2.tr hE3 (ts:=43::KTL)) (ts:=43::KTL)
 refine gcd 14 [.oc (.slice A2 steps.length c2) rfl] (43::KTL) w.drew hW3 (fun hC=>?_)
 refine (c14 A2 c2 steps w3 (Kd.C_below hr2 (Kept.toBelow (hHT hK03) hw)) (by omega)).mono ?_
 rintro e w4 ⟨sv,rfl,hsv,hE4⟩
 obtain ⟨As,cs',hsve,_,_⟩:=hsv.at47
 have hsv1:sv.oneCell'=true:=by rw [hsve];rfl
 have hs4:=hs3.kq hE4
 refine ⟨o1 ⟨sv,hsv1⟩,[],_,rfl,hs4,hC.trans (hE4.mono (by simp)),fun hW4=>?_⟩
 refine gr0 (bs:=[bb,tb]) 200 ⟨[],2,[],[],0⟩ hW4 fun w5 hE5 hW5=>?_
 have hs5:=hW5.sq (HT3 A xs.length c lo up hl hu)
 refine gcd 9 [o1 tv,.agg (B45 lo up hl hu),o1 ⟨sv,hsv1⟩] (43::KTL) w.drew hW5 (fun hC=>?_)
 refine (h9 xs lo up hl hu tv ⟨sv,hsv1⟩ steps w5 hwell ht hmb S.tr hn (hT2.kept (hE3.trans (hE4.trans hE5))) (hsv.kept hE5 (by decide)) (by omega) S.ops hW5.sz).mono ?_
 rintro e w6 ⟨gv,rfl,hown6,hK6⟩
 have hs6:=hs5.kq hK6
 refine ⟨.tup [o1 gv,.bl true],[],_,rfl,hs6,hC.trans (hK6.mono (by simp)),fun hW6=>?_⟩
 have hK06:Kept (43::KTL) w w6:=hK03.trans (hE4.tr (hE5.tr hK6 (ts:=43::KTL)) (ts:=43::KTL))
 clear hT2 hK2 hE3 hsv hE4 hE5 hK6 hK03 hs1 hs2 hs3 hs4 hs5 hE1 hE01
 refine gr0 (bs:=[bb,tb]) 200 ⟨[],2,[],[],0⟩ hW6 fun w7 hE7 hW7=>?_
 have hs7:=hW7.sq (HT3 A xs.length c lo up hl hu)
 refine gc 7 [] hW7 ?_
 refine (c7E w7).mono ?_
 rintro e w8 ⟨rfl,hE8⟩
 refine ⟨.bl true,[],_,rfl,hs7.kq hE8,fun hW8=>?_⟩
 refine gr0 (bs:=[bb,tb]) 200 ⟨[],2,[],[],0⟩ hW8 fun w9 hE9 hW9=>?_
 have hs9:=hW9.sq (HT3 A xs.length c lo up hl hu)
 have hE69:Ext w6 w9:=hE7.trans (hE8.trans hE9)
 have hK09:Kept (43::KTL) w w9:=hK06.tr hE69 (ts:=43::KTL)
 have hrk:=rk57 (own_kept hfv hK09 (by simp))
 obtain ⟨Af,cf,hfe,hcf,hCf⟩:=hrk.reads
 have hsrt:Srt (allT xs lo up hl hu):=(well_srt hwell).filter _
 have hal:(allT xs lo up hl hu).length < 2^30:=by
  have h1:(allT xs lo up hl hu).length≤(ptsT xs).length:=List.length_filter_le _ _
  have h2:=S.pts
  unfold ptsT at h1
  omega
 have hsz: ∀ x∈allT xs lo up hl hu,x.f0.size≤140737488351232:=by
  intro x hx
  have hx:=(List.mem_filter.1 hx).1
  obtain ⟨y,hy,hxy⟩:=List.mem_flatMap.1 hx
  have:=((S.sz y hy).1 x hxy).1
  omega
 obtain ⟨A0',c0',q1,q2,_⟩:=own_form (own_kept hfv hK09 (by simp))
 have hAc:Af=A0'∧cf=c0':=by rw [hfe] at q1;cases q1;exact ⟨rfl,rfl⟩
 have h16:=c16E Af cf (allT xs lo up hl hu) A2 c2 steps w9 (fun h=>by rw [hAc.2];exact (q2 (hAc.1 ▸ h)).1) (by omega) hsz hsrt (by omega) S.ops hCf (Kd.C_below hr2 (Kept.toBelow (hHT hK09) hw))
 rw [←hfe] at h16
 refine gc 16 [o1 fv,.oc (.slice A2 steps.length c2) rfl] hW9 (h16.mono ?_)
 rintro e w10 ⟨⟨rv,hrv1⟩,rfl,hrk145,hE10⟩
 obtain ⟨Ar,cr,hre,hcr,hCr⟩:=hrk145.reads
 refine ⟨.oc rv hrv1,[],_,rfl,hs9.kq hE10,fun hW10=>?_⟩
 refine gr0 (bs:=[bb,tb]) 200 ⟨[],2,[],[],0⟩ hW10 fun w11 hE11 hW11=>?_
 have hs11:=hW11.sq (HT3 A xs.length c lo up hl hu)
 have hwl: ∀ (G:List S36) (p:Option Nat) (l:List S47),(walkP G p l).length=l.length:=by
  intro G p l
  induction l generalizing p with
  |nil=>rfl
  |cons s r ih=>rw [walkP,List.length_cons,List.length_cons,ih]
 have hgl:(walkP ((allT xs lo up hl hu).map E57) none (steps.map E66)).length=steps.length:=by rw [hwl,List.length_map]
 have hE6_11:Ext w6 w11:=hE69.trans (hE10.trans hE11)
 have hown11:=own_kept hown6 hE6_11 (by simp)
 rw [←hgl] at hown11
 obtain ⟨Ag,cg,hge,hcg,hCg⟩:=(rk50 hown11).reads
 refine gc 15 [o1 gv,.oc rv hrv1] hW11 ?_
 have h15:=c15 Ag Ar cg cr (walkP ((allT xs lo up hl hu).map E57) none (steps.map E66)) ((walkP ((allT xs lo up hl hu).map E57) none (steps.map E66)).map conv) w11 hCg (Kd.C_below hCr (Ext.below hE11)) hcg hcr (by rw [hgl];omega) (by rw [List.length_map]) (fun i h1 h2=>by rw [List.getElem_map];exact same_conv _)
 rw [←hge, ←hre] at h15
 refine h15.mono ?_
 rintro e w12 ⟨rfl,hE12⟩
 refine ⟨.bl true,[],_,rfl,hs11.kq hE12,fun hW12=>?_⟩
 refine gr0 (bs:=[bb,tb]) 200 ⟨[],2,[],[],0⟩ hW12 fun w13 hE13 hW13=>?_
 have hfin:Kept (57::43::KTL) W w13:=hHT (hK06.tr (hE6_11.trans (hE12.trans hE13)) (ts:=43::KTL))
 exact gt (.bl true) hW13.sat ⟨rfl,Kept.toExt hfin hw⟩
end Go.Proofs.YtghppnklhbbffaaGreatDoor.X
